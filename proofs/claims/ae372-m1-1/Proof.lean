import JvmDerived
import JvmDerived.Pilot.@@N@@Statement
import JvmDerived.Pilot.@@N@@Code
set_option linter.unusedVariables false
set_option linter.unusedSimpArgs false
namespace Jvm.RoadKit
open Sem ClassFile Op Lib Jvm.Stand Jvm.Free Jvm.LawKit
section New
variable {p : Program} {l : Launch} {e : Env} {R : Room} {s : State} {m : MethodId} {args : Array Value} {below : List Frame} {meth : Method} {c : Code} {T : State} {locs : List Loc} {cells slots : Nat}
theorem retI (X : Stand p l e R s m args below meth c T locs cells slots) (hx : p.tables.exec = Jvm.exec) {pc : Nat} {Ls : Array Slot} {z : Int32} {rest : List Value} (hret : meth.sig.returnType = some .int) (hd : decode c.code pc = .ok (.ireturn, 1)) {fs : List Frame}
    (hl : ∀ (f : JFrame) (acts : List Action), f.method = m → f.locked = none → f.entered = [] → (doReturn e (T.setTop f) acts (some (.int z))).1 = T.setFrames fs) : Steps p.tables e below (T.setTop (mkF m pc Ls (.int z :: rest))) (T.setFrames fs) := by
  have hm' : T.vm.method? m = some meth := X.method'
  have hn : narrow .int (.int z) = .int z := rfl
  show Steps p.tables e below (T.setTop { method := m, pc := pc, locals := Ls, stack := _ :: rest, locked := none }) _
  jvm_step X.here [X.here.top, hx, hd, hm', hret, hn]
  first | (intro acts; rw [hl _ acts rfl rfl rfl]) | rw [hl _ _ rfl rfl rfl]
  exact Steps.refl _
end New
end Jvm.RoadKit
namespace Jvm.Own
open Sem ClassFile Op Lib Jvm.Stand Jvm.Free Jvm.LawKit Jvm.RoadKit
/-- the constants of one body's walk -/
abbrev KT := Program × Launch × Env × Room × State × MethodId × Array Value × List Frame × Method × Code × State × Nat
abbrev KT.p (K : KT) : Program := K.1
abbrev KT.l (K : KT) : Launch := K.2.1
abbrev KT.e (K : KT) : Env := K.2.2.1
abbrev KT.R (K : KT) : Room := K.2.2.2.1
abbrev KT.s (K : KT) : State := K.2.2.2.2.1
abbrev KT.m (K : KT) : MethodId := K.2.2.2.2.2.1
abbrev KT.args (K : KT) : Array Value := K.2.2.2.2.2.2.1
abbrev KT.below (K : KT) : List Frame := K.2.2.2.2.2.2.2.1
abbrev KT.meth (K : KT) : Method := K.2.2.2.2.2.2.2.2.1
abbrev KT.c (K : KT) : Code := K.2.2.2.2.2.2.2.2.2.1
abbrev KT.Z (K : KT) : State := K.2.2.2.2.2.2.2.2.2.2.1
abbrev KT.n0 (K : KT) : Nat := K.2.2.2.2.2.2.2.2.2.2.2
/-- what is known of the body -/
def Cx (K : KT) (y : MethodName) (bytes : ByteArray) (mx : Nat) (rt : Option FieldType) (R : Room) : Prop :=
  K.p.tables.exec = Jvm.exec ∧ K.Z.Warmed39 K.s.vm ∧ K.c.code = bytes ∧ K.c.maxLocals = mx ∧ K.s.vm.findClass y.cls = some K.m.cls ∧ K.meth.sig.returnType = rt ∧ K.meth.locks = false ∧ K.R = R ∧ K.meth.name = y.name
/-- where the walk stands: heap h, so many cells and slots made; nothing old written -/
def Sd (K : KT) (T : State) (h : Heap) (cl sl : Nat) : Prop := ∃ locs, Stand K.p K.l K.e K.R K.s K.m K.args K.below K.meth K.c T locs cl sl ∧ Fr K.n0 locs ∧ K.n0 ≤ h.size ∧ T.heap = h
/-- from here the body comes to its end, and Q holds of what it returns and of the heap then -/
def Run (K : KT) (Q : Option Value → Heap → Prop) (T : State) (g : JFrame) : Prop :=
  ∃ s₂ v L, Steps K.p.tables K.e K.below (T.setTop g) s₂ ∧ s₂.status = .running ∧ Ended s₂ K.below (.returned v) ∧ Q v s₂.heap ∧ Fr K.n0 L ∧ FrameEnd K.s (.returned v) s₂ L K.R.cells K.R.slots
theorem Run.st {K : KT} {Q : Option Value → Heap → Prop} {T T' : State} {g g' : JFrame} (st : ∀ t, Steps K.p.tables K.e K.below (T'.setTop g') t → Steps K.p.tables K.e K.below (T.setTop g) t) (k : Run K Q T' g') : Run K Q T g := by
  obtain ⟨s₂, v, L, h1, h2⟩ := k
  exact ⟨s₂, v, L, st _ h1, h2⟩
theorem Run.cast {K : KT} {Q : Option Value → Heap → Prop} {T : State} {g g' : JFrame} (q : g = g') (k : Run K Q T g') : Run K Q T g := q ▸ k
theorem Run.mono {K : KT} {Q Q' : Option Value → Heap → Prop} {T : State} {g : JFrame} (k : Run K Q T g) (q : ∀ v h, Q v h → Q' v h) : Run K Q' T g := by
  obtain ⟨s₂, v, L, h1, h2, h3, h4, h5⟩ := k
  exact ⟨s₂, v, L, h1, h2, h3, q _ _ h4, h5⟩
/-- the words of a sheet -/
def Tb (ws : List Jvm.Cond) (a0 : Array Value) (Z : State) : Prop := ∀ d ∈ ws, d.before a0 Z = true
theorem Tb.get {ws : List Jvm.Cond} {a0 : Array Value} {Z : State} (hw : Tb ws a0 Z) (i : Nat) {d : Jvm.Cond} (h : ws[i]? = some d) : d.before a0 Z = true := hw d (List.mem_of_getElem? h)
/-- an instruction, its length, the pc behind -/
def Dc (bytes : ByteArray) (pc : Nat) (i : Instr) (n pc' : Nat) : Prop := decode bytes pc = .ok (i, n) ∧ pc + n = pc'
/-- a branch: the pc behind, the pc that it goes to -/
def Db (bytes : ByteArray) (pc : Nat) (i : Instr) (o : Int) (pc' pt : Nat) : Prop := decode bytes pc = .ok (i, 3) ∧ pc + 3 = pc' ∧ 0 ≤ (pc : Int) + o ∧ ((pc : Int) + o).toNat = pt
theorem ne_new {a b : Addr} {h : Heap} (ea : a = h.size) (q : b < h.size) : a ≠ b := by subst ea; exact Nat.ne_of_gt q
theorem fr_new {h0 h : Heap} {a : Addr} (ea : a = h.size) (q : h0.size ≤ h.size) : h0.size ≤ a := ea ▸ q
theorem leb {a b : Nat} (h : Nat.ble a b = true) : a ≤ b := Nat.le_of_ble_eq_true h
theorem ltb {a b : Nat} (h : Nat.ble (a + 1) b = true) : a < b := Nat.le_of_ble_eq_true h
section Rules
variable {K : KT} {Q : Option Value → Heap → Prop} {T : State} {h : Heap} {cl sl : Nat} {y : MethodName} {bytes : ByteArray} {mx : Nat} {rt : Option FieldType} {R : Room} {pc pc' pt : Nat} {L : Array Slot} {S : List Value}
theorem r_top {v v' : Int32} (q : v = v') (k : Run K Q T (mkF K.m pc L (.int v' :: S))) : Run K Q T (mkF K.m pc L (.int v :: S)) := q ▸ k
theorem r_topL {v v' : Int64} (q : v = v') (k : Run K Q T (mkF K.m pc L (.long v' :: S))) : Run K Q T (mkF K.m pc L (.long v :: S)) := q ▸ k
theorem Sd.ge (X : Sd K T h cl sl) : K.n0 ≤ h.size := by obtain ⟨_, _, _, q, _⟩ := X; exact q
theorem r_iloadN {i : Fin 4} {v : Int32} (X : Sd K T h cl sl) (cx : Cx K y bytes mx rt R) (hd : Dc bytes pc (.iload_n i) 1 pc') (hl : L[i.val]? = some (.val (.int v))) (k : Run K Q T (mkF K.m pc' L (.int v :: S))) : Run K Q T (mkF K.m pc L (S)) := by
  obtain ⟨locs, X0, -⟩ := X; obtain ⟨hx, -, hby, -⟩ := cx; obtain ⟨d, rfl⟩ := hd
  exact Run.st (fun t q => XS.iloadN X0.here hx rfl (hb hby d) hl q) k
theorem r_iload {i : Nat} {v : Int32} (X : Sd K T h cl sl) (cx : Cx K y bytes mx rt R) (hd : Dc bytes pc (.iload i) 2 pc') (hl : L[i]? = some (.val (.int v))) (k : Run K Q T (mkF K.m pc' L (.int v :: S))) : Run K Q T (mkF K.m pc L (S)) := by
  obtain ⟨locs, X0, -⟩ := X; obtain ⟨hx, -, hby, -⟩ := cx; obtain ⟨d, rfl⟩ := hd
  exact Run.st (fun t q => XS.iload X0.here hx rfl (hb hby d) hl q) k
theorem r_lloadN {i : Fin 4} {v : Int64} (X : Sd K T h cl sl) (cx : Cx K y bytes mx rt R) (hd : Dc bytes pc (.lload_n i) 1 pc') (hl : L[i.val]? = some (.val (.long v))) (k : Run K Q T (mkF K.m pc' L (.long v :: S))) : Run K Q T (mkF K.m pc L (S)) := by
  obtain ⟨locs, X0, -⟩ := X; obtain ⟨hx, -, hby, -⟩ := cx; obtain ⟨d, rfl⟩ := hd
  exact Run.st (fun t q => XT.lloadN X0.here hx rfl (hb hby d) hl q) k
theorem r_lload {i : Nat} {v : Int64} (X : Sd K T h cl sl) (cx : Cx K y bytes mx rt R) (hd : Dc bytes pc (.lload i) 2 pc') (hl : L[i]? = some (.val (.long v))) (k : Run K Q T (mkF K.m pc' L (.long v :: S))) : Run K Q T (mkF K.m pc L (S)) := by
  obtain ⟨locs, X0, -⟩ := X; obtain ⟨hx, -, hby, -⟩ := cx; obtain ⟨d, rfl⟩ := hd
  exact Run.st (fun t q => XT.lload X0.here hx rfl (hb hby d) hl q) k
theorem r_aloadN {i : Fin 4} {v : Addr} (X : Sd K T h cl sl) (cx : Cx K y bytes mx rt R) (hd : Dc bytes pc (.aload_n i) 1 pc') (hl : L[i.val]? = some (.val (.ref v))) (k : Run K Q T (mkF K.m pc' L (.ref v :: S))) : Run K Q T (mkF K.m pc L (S)) := by
  obtain ⟨locs, X0, -⟩ := X; obtain ⟨hx, -, hby, -⟩ := cx; obtain ⟨d, rfl⟩ := hd
  exact Run.st (fun t q => XS.aloadN X0.here hx rfl (hb hby d) hl rfl q) k
theorem r_aload {i : Nat} {v : Addr} (X : Sd K T h cl sl) (cx : Cx K y bytes mx rt R) (hd : Dc bytes pc (.aload i) 2 pc') (hl : L[i]? = some (.val (.ref v))) (k : Run K Q T (mkF K.m pc' L (.ref v :: S))) : Run K Q T (mkF K.m pc L (S)) := by
  obtain ⟨locs, X0, -⟩ := X; obtain ⟨hx, -, hby, -⟩ := cx; obtain ⟨d, rfl⟩ := hd
  exact Run.st (fun t q => XS.aload X0.here hx rfl (hb hby d) hl rfl q) k
theorem r_iconst {i : Int} (v : Int32) (X : Sd K T h cl sl) (cx : Cx K y bytes mx rt R) (hd : Dc bytes pc (.iconst i) 1 pc') (hv : Int32.ofInt i = v) (k : Run K Q T (mkF K.m pc' L (.int v :: S))) : Run K Q T (mkF K.m pc L (S)) := by
  obtain ⟨locs, X0, -⟩ := X; obtain ⟨hx, -, hby, -⟩ := cx; obtain ⟨d, rfl⟩ := hd
  exact Run.st (fun t q => XT.iconstV X0.here hx rfl v (hb hby d) hv q) k
theorem r_bipush {i : Int} (v : Int32) (X : Sd K T h cl sl) (cx : Cx K y bytes mx rt R) (hd : Dc bytes pc (.bipush i) 2 pc') (hv : (Int8.ofInt i).toInt32 = v) (k : Run K Q T (mkF K.m pc' L (.int v :: S))) : Run K Q T (mkF K.m pc L (S)) := by
  obtain ⟨locs, X0, -⟩ := X; obtain ⟨hx, -, hby, -⟩ := cx; obtain ⟨d, rfl⟩ := hd
  exact Run.st (fun t q => XT.bipushV X0.here hx rfl v (hb hby d) hv q) k
theorem r_sipush {i : Int} (v : Int32) (X : Sd K T h cl sl) (cx : Cx K y bytes mx rt R) (hd : Dc bytes pc (.sipush i) 3 pc') (hv : (Int16.ofInt i).toInt32 = v) (k : Run K Q T (mkF K.m pc' L (.int v :: S))) : Run K Q T (mkF K.m pc L (S)) := by
  obtain ⟨locs, X0, -⟩ := X; obtain ⟨hx, -, hby, -⟩ := cx; obtain ⟨d, rfl⟩ := hd
  exact Run.st (fun t q => XT.sipushV X0.here hx rfl v (hb hby d) hv q) k
theorem r_lconst {i : Fin 2} (v : Int64) (X : Sd K T h cl sl) (cx : Cx K y bytes mx rt R) (hd : Dc bytes pc (.lconst i) 1 pc') (hv : Int64.ofNat i = v) (k : Run K Q T (mkF K.m pc' L (.long v :: S))) : Run K Q T (mkF K.m pc L (S)) := by
  obtain ⟨locs, X0, -⟩ := X; obtain ⟨hx, -, hby, -⟩ := cx; obtain ⟨d, rfl⟩ := hd
  exact Run.st (fun t q => XT.lconstV X0.here hx rfl v (hb hby d) hv q) k
theorem r_iadd {a b : Int32} (X : Sd K T h cl sl) (cx : Cx K y bytes mx rt R) (hd : Dc bytes pc .iadd 1 pc') (k : Run K Q T (mkF K.m pc' L (.int (a + b) :: S))) : Run K Q T (mkF K.m pc L (.int b :: .int a :: S)) := by
  obtain ⟨locs, X0, -⟩ := X; obtain ⟨hx, -, hby, -⟩ := cx; obtain ⟨d, rfl⟩ := hd
  exact Run.st (fun t q => XS.iadd X0.here hx rfl (hb hby d) rfl q) k
theorem r_isub {a b : Int32} (X : Sd K T h cl sl) (cx : Cx K y bytes mx rt R) (hd : Dc bytes pc .isub 1 pc') (k : Run K Q T (mkF K.m pc' L (.int (a - b) :: S))) : Run K Q T (mkF K.m pc L (.int b :: .int a :: S)) := by
  obtain ⟨locs, X0, -⟩ := X; obtain ⟨hx, -, hby, -⟩ := cx; obtain ⟨d, rfl⟩ := hd
  exact Run.st (fun t q => XS.isub X0.here hx rfl (hb hby d) rfl q) k
theorem r_imul {a b : Int32} (X : Sd K T h cl sl) (cx : Cx K y bytes mx rt R) (hd : Dc bytes pc .imul 1 pc') (k : Run K Q T (mkF K.m pc' L (.int (a * b) :: S))) : Run K Q T (mkF K.m pc L (.int b :: .int a :: S)) := by
  obtain ⟨locs, X0, -⟩ := X; obtain ⟨hx, -, hby, -⟩ := cx; obtain ⟨d, rfl⟩ := hd
  exact Run.st (fun t q => XS.imul X0.here hx rfl (hb hby d) rfl q) k
theorem r_iand {a b : Int32} (X : Sd K T h cl sl) (cx : Cx K y bytes mx rt R) (hd : Dc bytes pc .iand 1 pc') (k : Run K Q T (mkF K.m pc' L (.int (a &&& b) :: S))) : Run K Q T (mkF K.m pc L (.int b :: .int a :: S)) := by
  obtain ⟨locs, X0, -⟩ := X; obtain ⟨hx, -, hby, -⟩ := cx; obtain ⟨d, rfl⟩ := hd
  exact Run.st (fun t q => XS.iand X0.here hx rfl (hb hby d) rfl q) k
theorem r_ior {a b : Int32} (X : Sd K T h cl sl) (cx : Cx K y bytes mx rt R) (hd : Dc bytes pc .ior 1 pc') (k : Run K Q T (mkF K.m pc' L (.int (a ||| b) :: S))) : Run K Q T (mkF K.m pc L (.int b :: .int a :: S)) := by
  obtain ⟨locs, X0, -⟩ := X; obtain ⟨hx, -, hby, -⟩ := cx; obtain ⟨d, rfl⟩ := hd
  exact Run.st (fun t q => XT.ior X0.here hx rfl (hb hby d) rfl q) k
theorem r_ixor {a b : Int32} (X : Sd K T h cl sl) (cx : Cx K y bytes mx rt R) (hd : Dc bytes pc .ixor 1 pc') (k : Run K Q T (mkF K.m pc' L (.int (a ^^^ b) :: S))) : Run K Q T (mkF K.m pc L (.int b :: .int a :: S)) := by
  obtain ⟨locs, X0, -⟩ := X; obtain ⟨hx, -, hby, -⟩ := cx; obtain ⟨d, rfl⟩ := hd
  exact Run.st (fun t q => XT.ixor X0.here hx rfl (hb hby d) rfl q) k
theorem r_ishl {a b : Int32} (X : Sd K T h cl sl) (cx : Cx K y bytes mx rt R) (hd : Dc bytes pc .ishl 1 pc') (k : Run K Q T (mkF K.m pc' L (.int (a <<< (b &&& 31)) :: S))) : Run K Q T (mkF K.m pc L (.int b :: .int a :: S)) := by
  obtain ⟨locs, X0, -⟩ := X; obtain ⟨hx, -, hby, -⟩ := cx; obtain ⟨d, rfl⟩ := hd
  exact Run.st (fun t q => XT.ishl X0.here hx rfl (hb hby d) rfl q) k
theorem r_ishr {a b : Int32} (X : Sd K T h cl sl) (cx : Cx K y bytes mx rt R) (hd : Dc bytes pc .ishr 1 pc') (k : Run K Q T (mkF K.m pc' L (.int (a >>> (b &&& 31)) :: S))) : Run K Q T (mkF K.m pc L (.int b :: .int a :: S)) := by
  obtain ⟨locs, X0, -⟩ := X; obtain ⟨hx, -, hby, -⟩ := cx; obtain ⟨d, rfl⟩ := hd
  exact Run.st (fun t q => XT.ishr X0.here hx rfl (hb hby d) rfl q) k
theorem r_iushr {a b : Int32} (X : Sd K T h cl sl) (cx : Cx K y bytes mx rt R) (hd : Dc bytes pc .iushr 1 pc') (k : Run K Q T (mkF K.m pc' L (.int (XT.ushr a b) :: S))) : Run K Q T (mkF K.m pc L (.int b :: .int a :: S)) := by
  obtain ⟨locs, X0, -⟩ := X; obtain ⟨hx, -, hby, -⟩ := cx; obtain ⟨d, rfl⟩ := hd
  exact Run.st (fun t q => XT.iushr X0.here hx rfl (hb hby d) rfl q) k
theorem r_idiv {a b : Int32} (X : Sd K T h cl sl) (cx : Cx K y bytes mx rt R) (hd : Dc bytes pc .idiv 1 pc') (hne : b ≠ 0) (k : Run K Q T (mkF K.m pc' L (.int (a / b) :: S))) : Run K Q T (mkF K.m pc L (.int b :: .int a :: S)) := by
  obtain ⟨locs, X0, -⟩ := X; obtain ⟨hx, -, hby, -⟩ := cx; obtain ⟨d, rfl⟩ := hd
  exact Run.st (fun t q => XS.idiv X0.here hx rfl (hb hby d) rfl hne q) k
theorem r_irem {a b : Int32} (X : Sd K T h cl sl) (cx : Cx K y bytes mx rt R) (hd : Dc bytes pc .irem 1 pc') (hne : b ≠ 0) (k : Run K Q T (mkF K.m pc' L (.int (a - (a / b) * b) :: S))) : Run K Q T (mkF K.m pc L (.int b :: .int a :: S)) := by
  obtain ⟨locs, X0, -⟩ := X; obtain ⟨hx, -, hby, -⟩ := cx; obtain ⟨d, rfl⟩ := hd
  exact Run.st (fun t q => XS.irem X0.here hx rfl (hb hby d) rfl hne q) k
theorem r_ladd {a b : Int64} (X : Sd K T h cl sl) (cx : Cx K y bytes mx rt R) (hd : Dc bytes pc .ladd 1 pc') (k : Run K Q T (mkF K.m pc' L (.long (a + b) :: S))) : Run K Q T (mkF K.m pc L (.long b :: .long a :: S)) := by
  obtain ⟨locs, X0, -⟩ := X; obtain ⟨hx, -, hby, -⟩ := cx; obtain ⟨d, rfl⟩ := hd
  exact Run.st (fun t q => XT.ladd X0.here hx rfl (hb hby d) rfl q) k
theorem r_lsub {a b : Int64} (X : Sd K T h cl sl) (cx : Cx K y bytes mx rt R) (hd : Dc bytes pc .lsub 1 pc') (k : Run K Q T (mkF K.m pc' L (.long (a - b) :: S))) : Run K Q T (mkF K.m pc L (.long b :: .long a :: S)) := by
  obtain ⟨locs, X0, -⟩ := X; obtain ⟨hx, -, hby, -⟩ := cx; obtain ⟨d, rfl⟩ := hd
  exact Run.st (fun t q => XT.lsub X0.here hx rfl (hb hby d) rfl q) k
theorem r_lmul {a b : Int64} (X : Sd K T h cl sl) (cx : Cx K y bytes mx rt R) (hd : Dc bytes pc .lmul 1 pc') (k : Run K Q T (mkF K.m pc' L (.long (a * b) :: S))) : Run K Q T (mkF K.m pc L (.long b :: .long a :: S)) := by
  obtain ⟨locs, X0, -⟩ := X; obtain ⟨hx, -, hby, -⟩ := cx; obtain ⟨d, rfl⟩ := hd
  exact Run.st (fun t q => XT.lmul X0.here hx rfl (hb hby d) rfl q) k
theorem r_land {a b : Int64} (X : Sd K T h cl sl) (cx : Cx K y bytes mx rt R) (hd : Dc bytes pc .land 1 pc') (k : Run K Q T (mkF K.m pc' L (.long (a &&& b) :: S))) : Run K Q T (mkF K.m pc L (.long b :: .long a :: S)) := by
  obtain ⟨locs, X0, -⟩ := X; obtain ⟨hx, -, hby, -⟩ := cx; obtain ⟨d, rfl⟩ := hd
  exact Run.st (fun t q => XT.land X0.here hx rfl (hb hby d) rfl q) k
theorem r_lor {a b : Int64} (X : Sd K T h cl sl) (cx : Cx K y bytes mx rt R) (hd : Dc bytes pc .lor 1 pc') (k : Run K Q T (mkF K.m pc' L (.long (a ||| b) :: S))) : Run K Q T (mkF K.m pc L (.long b :: .long a :: S)) := by
  obtain ⟨locs, X0, -⟩ := X; obtain ⟨hx, -, hby, -⟩ := cx; obtain ⟨d, rfl⟩ := hd
  exact Run.st (fun t q => XT.lor X0.here hx rfl (hb hby d) rfl q) k
theorem r_lxor {a b : Int64} (X : Sd K T h cl sl) (cx : Cx K y bytes mx rt R) (hd : Dc bytes pc .lxor 1 pc') (k : Run K Q T (mkF K.m pc' L (.long (a ^^^ b) :: S))) : Run K Q T (mkF K.m pc L (.long b :: .long a :: S)) := by
  obtain ⟨locs, X0, -⟩ := X; obtain ⟨hx, -, hby, -⟩ := cx; obtain ⟨d, rfl⟩ := hd
  exact Run.st (fun t q => XT.lxor X0.here hx rfl (hb hby d) rfl q) k
theorem r_ldiv {a b : Int64} (X : Sd K T h cl sl) (cx : Cx K y bytes mx rt R) (hd : Dc bytes pc .ldiv 1 pc') (hne : b ≠ 0) (k : Run K Q T (mkF K.m pc' L (.long (a / b) :: S))) : Run K Q T (mkF K.m pc L (.long b :: .long a :: S)) := by
  obtain ⟨locs, X0, -⟩ := X; obtain ⟨hx, -, hby, -⟩ := cx; obtain ⟨d, rfl⟩ := hd
  exact Run.st (fun t q => XT.ldiv X0.here hx rfl (hb hby d) rfl hne q) k
theorem r_lrem {a b : Int64} (X : Sd K T h cl sl) (cx : Cx K y bytes mx rt R) (hd : Dc bytes pc .lrem 1 pc') (hne : b ≠ 0) (k : Run K Q T (mkF K.m pc' L (.long (a - (a / b) * b) :: S))) : Run K Q T (mkF K.m pc L (.long b :: .long a :: S)) := by
  obtain ⟨locs, X0, -⟩ := X; obtain ⟨hx, -, hby, -⟩ := cx; obtain ⟨d, rfl⟩ := hd
  exact Run.st (fun t q => XT.lrem X0.here hx rfl (hb hby d) rfl hne q) k
theorem r_lshl {a : Int64} {b : Int32} (X : Sd K T h cl sl) (cx : Cx K y bytes mx rt R) (hd : Dc bytes pc .lshl 1 pc') (k : Run K Q T (mkF K.m pc' L (.long (a <<< (b.toInt64 &&& 63)) :: S))) : Run K Q T (mkF K.m pc L (.int b :: .long a :: S)) := by
  obtain ⟨locs, X0, -⟩ := X; obtain ⟨hx, -, hby, -⟩ := cx; obtain ⟨d, rfl⟩ := hd
  exact Run.st (fun t q => XT.lshl X0.here hx rfl (hb hby d) rfl q) k
theorem r_lshr {a : Int64} {b : Int32} (X : Sd K T h cl sl) (cx : Cx K y bytes mx rt R) (hd : Dc bytes pc .lshr 1 pc') (k : Run K Q T (mkF K.m pc' L (.long (a >>> (b.toInt64 &&& 63)) :: S))) : Run K Q T (mkF K.m pc L (.int b :: .long a :: S)) := by
  obtain ⟨locs, X0, -⟩ := X; obtain ⟨hx, -, hby, -⟩ := cx; obtain ⟨d, rfl⟩ := hd
  exact Run.st (fun t q => XT.lshr X0.here hx rfl (hb hby d) rfl q) k
theorem r_lushr {a : Int64} {b : Int32} (X : Sd K T h cl sl) (cx : Cx K y bytes mx rt R) (hd : Dc bytes pc .lushr 1 pc') (k : Run K Q T (mkF K.m pc' L (.long (XT.ushrL a b) :: S))) : Run K Q T (mkF K.m pc L (.int b :: .long a :: S)) := by
  obtain ⟨locs, X0, -⟩ := X; obtain ⟨hx, -, hby, -⟩ := cx; obtain ⟨d, rfl⟩ := hd
  exact Run.st (fun t q => XT.lushr X0.here hx rfl (hb hby d) rfl q) k
theorem r_ineg {a : Int32} (X : Sd K T h cl sl) (cx : Cx K y bytes mx rt R) (hd : Dc bytes pc .ineg 1 pc') (k : Run K Q T (mkF K.m pc' L (.int (-a) :: S))) : Run K Q T (mkF K.m pc L (.int a :: S)) := by
  obtain ⟨locs, X0, -⟩ := X; obtain ⟨hx, -, hby, -⟩ := cx; obtain ⟨d, rfl⟩ := hd
  exact Run.st (fun t q => XS.ineg X0.here hx rfl (hb hby d) rfl q) k
theorem r_i2l {a : Int32} (X : Sd K T h cl sl) (cx : Cx K y bytes mx rt R) (hd : Dc bytes pc .i2l 1 pc') (k : Run K Q T (mkF K.m pc' L (.long a.toInt64 :: S))) : Run K Q T (mkF K.m pc L (.int a :: S)) := by
  obtain ⟨locs, X0, -⟩ := X; obtain ⟨hx, -, hby, -⟩ := cx; obtain ⟨d, rfl⟩ := hd
  exact Run.st (fun t q => XT.i2l X0.here hx rfl (hb hby d) rfl q) k
theorem r_l2i {a : Int64} (X : Sd K T h cl sl) (cx : Cx K y bytes mx rt R) (hd : Dc bytes pc .l2i 1 pc') (k : Run K Q T (mkF K.m pc' L (.int a.toInt32 :: S))) : Run K Q T (mkF K.m pc L (.long a :: S)) := by
  obtain ⟨locs, X0, -⟩ := X; obtain ⟨hx, -, hby, -⟩ := cx; obtain ⟨d, rfl⟩ := hd
  exact Run.st (fun t q => XT.l2i X0.here hx rfl (hb hby d) rfl q) k
theorem r_i2b {a : Int32} (X : Sd K T h cl sl) (cx : Cx K y bytes mx rt R) (hd : Dc bytes pc .i2b 1 pc') (k : Run K Q T (mkF K.m pc' L (.int a.toInt8.toInt32 :: S))) : Run K Q T (mkF K.m pc L (.int a :: S)) := by
  obtain ⟨locs, X0, -⟩ := X; obtain ⟨hx, -, hby, -⟩ := cx; obtain ⟨d, rfl⟩ := hd
  exact Run.st (fun t q => XT.i2b X0.here hx rfl (hb hby d) rfl q) k
theorem r_i2s {a : Int32} (X : Sd K T h cl sl) (cx : Cx K y bytes mx rt R) (hd : Dc bytes pc .i2s 1 pc') (k : Run K Q T (mkF K.m pc' L (.int a.toInt16.toInt32 :: S))) : Run K Q T (mkF K.m pc L (.int a :: S)) := by
  obtain ⟨locs, X0, -⟩ := X; obtain ⟨hx, -, hby, -⟩ := cx; obtain ⟨d, rfl⟩ := hd
  exact Run.st (fun t q => XT.i2s X0.here hx rfl (hb hby d) rfl q) k
theorem r_lcmp {a b : Int64} (X : Sd K T h cl sl) (cx : Cx K y bytes mx rt R) (hd : Dc bytes pc .lcmp 1 pc') (k : Run K Q T (mkF K.m pc' L (.int (XT.cmpL a b) :: S))) : Run K Q T (mkF K.m pc L (.long b :: .long a :: S)) := by
  obtain ⟨locs, X0, -⟩ := X; obtain ⟨hx, -, hby, -⟩ := cx; obtain ⟨d, rfl⟩ := hd
  exact Run.st (fun t q => XT.lcmp X0.here hx rfl (hb hby d) rfl q) k
theorem r_dup {v : Value} (X : Sd K T h cl sl) (cx : Cx K y bytes mx rt R) (hd : Dc bytes pc .dup 1 pc') (hc : v.category = 1) (k : Run K Q T (mkF K.m pc' L (v :: v :: S))) : Run K Q T (mkF K.m pc L (v :: S)) := by
  obtain ⟨locs, X0, -⟩ := X; obtain ⟨hx, -, hby, -⟩ := cx; obtain ⟨d, rfl⟩ := hd
  exact Run.st (fun t q => XS.dup X0.here hx rfl (hb hby d) rfl hc q) k
theorem r_pop {v : Value} (X : Sd K T h cl sl) (cx : Cx K y bytes mx rt R) (hd : Dc bytes pc .pop 1 pc') (hc : v.category = 1) (k : Run K Q T (mkF K.m pc' L (S))) : Run K Q T (mkF K.m pc L (v :: S)) := by
  obtain ⟨locs, X0, -⟩ := X; obtain ⟨hx, -, hby, -⟩ := cx; obtain ⟨d, rfl⟩ := hd
  exact Run.st (fun t q => XT.pop X0.here hx rfl (hb hby d) rfl hc q) k
theorem r_dup2 {v w : Value} (X : Sd K T h cl sl) (cx : Cx K y bytes mx rt R) (hd : Dc bytes pc .dup2 1 pc') (hc : v.category = 1) (hc2 : w.category = 1) (k : Run K Q T (mkF K.m pc' L (v :: w :: v :: w :: S))) : Run K Q T (mkF K.m pc L (v :: w :: S)) := by
  obtain ⟨locs, X0, -⟩ := X; obtain ⟨hx, -, hby, -⟩ := cx; obtain ⟨d, rfl⟩ := hd
  exact Run.st (fun t q => XT.dup2 X0.here hx rfl (hb hby d) rfl hc hc2 q) k
theorem r_dup_x1 {v w : Value} (X : Sd K T h cl sl) (cx : Cx K y bytes mx rt R) (hd : Dc bytes pc .dup_x1 1 pc') (hc : v.category = 1) (hc2 : w.category = 1) (k : Run K Q T (mkF K.m pc' L (v :: w :: v :: S))) : Run K Q T (mkF K.m pc L (v :: w :: S)) := by
  obtain ⟨locs, X0, -⟩ := X; obtain ⟨hx, -, hby, -⟩ := cx; obtain ⟨d, rfl⟩ := hd
  exact Run.st (fun t q => XT.dupX1 X0.here hx rfl (hb hby d) rfl hc hc2 q) k
theorem r_istoreN {i : Fin 4} {x : Int32} (L' : Int32 → Array Slot) (X : Sd K T h cl sl) (cx : Cx K y bytes mx rt R) (hd : Dc bytes pc (.istore_n i) 1 pc') (hl : ∀ v, storeLocals L i.val (.int v) = some (L' v)) (k : ∀ v, v = x → Run K Q T (mkF K.m pc' (L' v) S)) : Run K Q T (mkF K.m pc L (.int x :: S)) := by
  obtain ⟨locs, X0, -⟩ := X; obtain ⟨hx, -, hby, -⟩ := cx; obtain ⟨d, rfl⟩ := hd
  exact Run.st (fun t q => XS.istoreN X0.here hx rfl (hb hby d) rfl (hl x) q) (k x rfl)
theorem r_istore {i : Nat} {x : Int32} (L' : Int32 → Array Slot) (X : Sd K T h cl sl) (cx : Cx K y bytes mx rt R) (hd : Dc bytes pc (.istore i) 2 pc') (hl : ∀ v, storeLocals L i (.int v) = some (L' v)) (k : ∀ v, v = x → Run K Q T (mkF K.m pc' (L' v) S)) : Run K Q T (mkF K.m pc L (.int x :: S)) := by
  obtain ⟨locs, X0, -⟩ := X; obtain ⟨hx, -, hby, -⟩ := cx; obtain ⟨d, rfl⟩ := hd
  exact Run.st (fun t q => XS.istore X0.here hx rfl (hb hby d) rfl (hl x) q) (k x rfl)
theorem r_lstoreN {i : Fin 4} {x : Int64} (L' : Int64 → Array Slot) (X : Sd K T h cl sl) (cx : Cx K y bytes mx rt R) (hd : Dc bytes pc (.lstore_n i) 1 pc') (hl : ∀ v, storeLocals L i.val (.long v) = some (L' v)) (k : ∀ v, v = x → Run K Q T (mkF K.m pc' (L' v) S)) : Run K Q T (mkF K.m pc L (.long x :: S)) := by
  obtain ⟨locs, X0, -⟩ := X; obtain ⟨hx, -, hby, -⟩ := cx; obtain ⟨d, rfl⟩ := hd
  exact Run.st (fun t q => XT.lstoreN X0.here hx rfl (hb hby d) rfl (hl x) q) (k x rfl)
theorem r_lstore {i : Nat} {x : Int64} (L' : Int64 → Array Slot) (X : Sd K T h cl sl) (cx : Cx K y bytes mx rt R) (hd : Dc bytes pc (.lstore i) 2 pc') (hl : ∀ v, storeLocals L i (.long v) = some (L' v)) (k : ∀ v, v = x → Run K Q T (mkF K.m pc' (L' v) S)) : Run K Q T (mkF K.m pc L (.long x :: S)) := by
  obtain ⟨locs, X0, -⟩ := X; obtain ⟨hx, -, hby, -⟩ := cx; obtain ⟨d, rfl⟩ := hd
  exact Run.st (fun t q => XT.lstore X0.here hx rfl (hb hby d) rfl (hl x) q) (k x rfl)
theorem r_astoreN {i : Fin 4} {x : Addr} (L' : Array Slot) (X : Sd K T h cl sl) (cx : Cx K y bytes mx rt R) (hd : Dc bytes pc (.astore_n i) 1 pc') (hl : storeLocals L i.val (.ref x) = some L') (k : Run K Q T (mkF K.m pc' L' S)) : Run K Q T (mkF K.m pc L (.ref x :: S)) := by
  obtain ⟨locs, X0, -⟩ := X; obtain ⟨hx, -, hby, -⟩ := cx; obtain ⟨d, rfl⟩ := hd
  exact Run.st (fun t q => XS.astoreN X0.here hx rfl (hb hby d) rfl rfl hl q) k
theorem r_astore {i : Nat} {x : Addr} (L' : Array Slot) (X : Sd K T h cl sl) (cx : Cx K y bytes mx rt R) (hd : Dc bytes pc (.astore i) 2 pc') (hl : storeLocals L i (.ref x) = some L') (k : Run K Q T (mkF K.m pc' L' S)) : Run K Q T (mkF K.m pc L (.ref x :: S)) := by
  obtain ⟨locs, X0, -⟩ := X; obtain ⟨hx, -, hby, -⟩ := cx; obtain ⟨d, rfl⟩ := hd
  exact Run.st (fun t q => XS.astore X0.here hx rfl (hb hby d) rfl rfl hl q) k
theorem r_iinc {i : Nat} {cst : Int} {x : Int32} (w : Int32) (L' : Int32 → Array Slot) (X : Sd K T h cl sl) (cx : Cx K y bytes mx rt R) (hd : Dc bytes pc (.iinc i cst) 3 pc') (hv : Int32.ofInt cst = w) (ho : L[i]? = some (.val (.int x))) (hl : ∀ v, storeLocals L i (.int v) = some (L' v)) (k : ∀ v, v = x + w → Run K Q T (mkF K.m pc' (L' v) S)) : Run K Q T (mkF K.m pc L S) := by
  obtain ⟨locs, X0, -⟩ := X; obtain ⟨hx, -, hby, -⟩ := cx; obtain ⟨d, rfl⟩ := hd
  exact Run.st (fun t q => XT.iincV X0.here hx rfl w (hb hby d) hv ho (hl _) q) (k _ rfl)
theorem r_goto {o : Int} (X : Sd K T h cl sl) (cx : Cx K y bytes mx rt R) (hd : Db bytes pc (.goto o) o pc' pt) (k : Run K Q T (mkF K.m pt L S)) : Run K Q T (mkF K.m pc L S) := by
  obtain ⟨locs, X0, -⟩ := X; obtain ⟨hx, -, hby, -⟩ := cx; obtain ⟨d, -, ho, hp⟩ := hd
  exact Run.st (fun t q => XS.goto X0.here hx rfl (pc0 := pc) rfl (hb hby d) ho hp q) k
theorem r_icmpeq {o : Int} {a b : Int32} (X : Sd K T h cl sl) (cx : Cx K y bytes mx rt R) (hd : Db bytes pc (.if_icmp .eq o) o pc' pt) (k1 : a = b → Run K Q T (mkF K.m pt L S)) (k2 : ¬ a = b → Run K Q T (mkF K.m pc' L S)) : Run K Q T (mkF K.m pc L (.int b :: .int a :: S)) := by
  obtain ⟨locs, X0, -⟩ := X; obtain ⟨hx, -, hby, -⟩ := cx; obtain ⟨d, rfl, ho, hp⟩ := hd
  by_cases q : a = b
  · exact Run.st (fun t u => XS.icmpYes X0.here hx rfl (pc0 := pc) rfl (hb hby d) rfl (XT.ii_eq_t q) ho hp u) (k1 q)
  · exact Run.st (fun t u => XS.icmpNo X0.here hx rfl (hb hby d) rfl (XT.ii_eq_f q) u) (k2 q)
theorem r_ifeq {o : Int} {a : Int32} (X : Sd K T h cl sl) (cx : Cx K y bytes mx rt R) (hd : Db bytes pc (.ifCond .eq o) o pc' pt) (k1 : a = 0 → Run K Q T (mkF K.m pt L S)) (k2 : ¬ a = 0 → Run K Q T (mkF K.m pc' L S)) : Run K Q T (mkF K.m pc L (.int a :: S)) := by
  obtain ⟨locs, X0, -⟩ := X; obtain ⟨hx, -, hby, -⟩ := cx; obtain ⟨d, rfl, ho, hp⟩ := hd
  by_cases q : a = 0
  · exact Run.st (fun t u => XS.ifYes X0.here hx rfl (pc0 := pc) rfl (hb hby d) rfl (XT.i0_eq_t q) ho hp u) (k1 q)
  · exact Run.st (fun t u => XS.ifNo X0.here hx rfl (hb hby d) rfl (XT.i0_eq_f q) u) (k2 q)
theorem r_lcmpeq {o : Int} {a b : Int64} (X : Sd K T h cl sl) (cx : Cx K y bytes mx rt R) (hd : Db bytes pc (.ifCond .eq o) o pc' pt) (k1 : a = b → Run K Q T (mkF K.m pt L S)) (k2 : ¬ a = b → Run K Q T (mkF K.m pc' L S)) : Run K Q T (mkF K.m pc L (.int (XT.cmpL a b) :: S)) := by
  obtain ⟨locs, X0, -⟩ := X; obtain ⟨hx, -, hby, -⟩ := cx; obtain ⟨d, rfl, ho, hp⟩ := hd
  by_cases q : a = b
  · exact Run.st (fun t u => XS.ifYes X0.here hx rfl (pc0 := pc) rfl (hb hby d) rfl (XT.ll_eq_t q) ho hp u) (k1 q)
  · exact Run.st (fun t u => XS.ifNo X0.here hx rfl (hb hby d) rfl (XT.ll_eq_f q) u) (k2 q)
theorem r_icmpne {o : Int} {a b : Int32} (X : Sd K T h cl sl) (cx : Cx K y bytes mx rt R) (hd : Db bytes pc (.if_icmp .ne o) o pc' pt) (k1 : ¬ a = b → Run K Q T (mkF K.m pt L S)) (k2 : a = b → Run K Q T (mkF K.m pc' L S)) : Run K Q T (mkF K.m pc L (.int b :: .int a :: S)) := by
  obtain ⟨locs, X0, -⟩ := X; obtain ⟨hx, -, hby, -⟩ := cx; obtain ⟨d, rfl, ho, hp⟩ := hd
  by_cases q : a = b
  · exact Run.st (fun t u => XS.icmpNo X0.here hx rfl (hb hby d) rfl (XT.ii_ne_f q) u) (k2 q)
  · exact Run.st (fun t u => XS.icmpYes X0.here hx rfl (pc0 := pc) rfl (hb hby d) rfl (XT.ii_ne_t q) ho hp u) (k1 q)
theorem r_ifne {o : Int} {a : Int32} (X : Sd K T h cl sl) (cx : Cx K y bytes mx rt R) (hd : Db bytes pc (.ifCond .ne o) o pc' pt) (k1 : ¬ a = 0 → Run K Q T (mkF K.m pt L S)) (k2 : a = 0 → Run K Q T (mkF K.m pc' L S)) : Run K Q T (mkF K.m pc L (.int a :: S)) := by
  obtain ⟨locs, X0, -⟩ := X; obtain ⟨hx, -, hby, -⟩ := cx; obtain ⟨d, rfl, ho, hp⟩ := hd
  by_cases q : a = 0
  · exact Run.st (fun t u => XS.ifNo X0.here hx rfl (hb hby d) rfl (XT.i0_ne_f q) u) (k2 q)
  · exact Run.st (fun t u => XS.ifYes X0.here hx rfl (pc0 := pc) rfl (hb hby d) rfl (XT.i0_ne_t q) ho hp u) (k1 q)
theorem r_lcmpne {o : Int} {a b : Int64} (X : Sd K T h cl sl) (cx : Cx K y bytes mx rt R) (hd : Db bytes pc (.ifCond .ne o) o pc' pt) (k1 : ¬ a = b → Run K Q T (mkF K.m pt L S)) (k2 : a = b → Run K Q T (mkF K.m pc' L S)) : Run K Q T (mkF K.m pc L (.int (XT.cmpL a b) :: S)) := by
  obtain ⟨locs, X0, -⟩ := X; obtain ⟨hx, -, hby, -⟩ := cx; obtain ⟨d, rfl, ho, hp⟩ := hd
  by_cases q : a = b
  · exact Run.st (fun t u => XS.ifNo X0.here hx rfl (hb hby d) rfl (XT.ll_ne_f q) u) (k2 q)
  · exact Run.st (fun t u => XS.ifYes X0.here hx rfl (pc0 := pc) rfl (hb hby d) rfl (XT.ll_ne_t q) ho hp u) (k1 q)
theorem r_icmplt {o : Int} {a b : Int32} (X : Sd K T h cl sl) (cx : Cx K y bytes mx rt R) (hd : Db bytes pc (.if_icmp .lt o) o pc' pt) (k1 : a < b → Run K Q T (mkF K.m pt L S)) (k2 : ¬ a < b → Run K Q T (mkF K.m pc' L S)) : Run K Q T (mkF K.m pc L (.int b :: .int a :: S)) := by
  obtain ⟨locs, X0, -⟩ := X; obtain ⟨hx, -, hby, -⟩ := cx; obtain ⟨d, rfl, ho, hp⟩ := hd
  by_cases q : a < b
  · exact Run.st (fun t u => XS.icmpYes X0.here hx rfl (pc0 := pc) rfl (hb hby d) rfl (XT.ii_lt_t q) ho hp u) (k1 q)
  · exact Run.st (fun t u => XS.icmpNo X0.here hx rfl (hb hby d) rfl (XT.ii_lt_f q) u) (k2 q)
theorem r_iflt {o : Int} {a : Int32} (X : Sd K T h cl sl) (cx : Cx K y bytes mx rt R) (hd : Db bytes pc (.ifCond .lt o) o pc' pt) (k1 : a < 0 → Run K Q T (mkF K.m pt L S)) (k2 : ¬ a < 0 → Run K Q T (mkF K.m pc' L S)) : Run K Q T (mkF K.m pc L (.int a :: S)) := by
  obtain ⟨locs, X0, -⟩ := X; obtain ⟨hx, -, hby, -⟩ := cx; obtain ⟨d, rfl, ho, hp⟩ := hd
  by_cases q : a < 0
  · exact Run.st (fun t u => XS.ifYes X0.here hx rfl (pc0 := pc) rfl (hb hby d) rfl (XT.i0_lt_t q) ho hp u) (k1 q)
  · exact Run.st (fun t u => XS.ifNo X0.here hx rfl (hb hby d) rfl (XT.i0_lt_f q) u) (k2 q)
theorem r_lcmplt {o : Int} {a b : Int64} (X : Sd K T h cl sl) (cx : Cx K y bytes mx rt R) (hd : Db bytes pc (.ifCond .lt o) o pc' pt) (k1 : a < b → Run K Q T (mkF K.m pt L S)) (k2 : ¬ a < b → Run K Q T (mkF K.m pc' L S)) : Run K Q T (mkF K.m pc L (.int (XT.cmpL a b) :: S)) := by
  obtain ⟨locs, X0, -⟩ := X; obtain ⟨hx, -, hby, -⟩ := cx; obtain ⟨d, rfl, ho, hp⟩ := hd
  by_cases q : a < b
  · exact Run.st (fun t u => XS.ifYes X0.here hx rfl (pc0 := pc) rfl (hb hby d) rfl (XT.ll_lt_t q) ho hp u) (k1 q)
  · exact Run.st (fun t u => XS.ifNo X0.here hx rfl (hb hby d) rfl (XT.ll_lt_f q) u) (k2 q)
theorem r_icmpge {o : Int} {a b : Int32} (X : Sd K T h cl sl) (cx : Cx K y bytes mx rt R) (hd : Db bytes pc (.if_icmp .ge o) o pc' pt) (k1 : ¬ a < b → Run K Q T (mkF K.m pt L S)) (k2 : a < b → Run K Q T (mkF K.m pc' L S)) : Run K Q T (mkF K.m pc L (.int b :: .int a :: S)) := by
  obtain ⟨locs, X0, -⟩ := X; obtain ⟨hx, -, hby, -⟩ := cx; obtain ⟨d, rfl, ho, hp⟩ := hd
  by_cases q : a < b
  · exact Run.st (fun t u => XS.icmpNo X0.here hx rfl (hb hby d) rfl (XT.ii_ge_f q) u) (k2 q)
  · exact Run.st (fun t u => XS.icmpYes X0.here hx rfl (pc0 := pc) rfl (hb hby d) rfl (XT.ii_ge_t q) ho hp u) (k1 q)
theorem r_ifge {o : Int} {a : Int32} (X : Sd K T h cl sl) (cx : Cx K y bytes mx rt R) (hd : Db bytes pc (.ifCond .ge o) o pc' pt) (k1 : ¬ a < 0 → Run K Q T (mkF K.m pt L S)) (k2 : a < 0 → Run K Q T (mkF K.m pc' L S)) : Run K Q T (mkF K.m pc L (.int a :: S)) := by
  obtain ⟨locs, X0, -⟩ := X; obtain ⟨hx, -, hby, -⟩ := cx; obtain ⟨d, rfl, ho, hp⟩ := hd
  by_cases q : a < 0
  · exact Run.st (fun t u => XS.ifNo X0.here hx rfl (hb hby d) rfl (XT.i0_ge_f q) u) (k2 q)
  · exact Run.st (fun t u => XS.ifYes X0.here hx rfl (pc0 := pc) rfl (hb hby d) rfl (XT.i0_ge_t q) ho hp u) (k1 q)
theorem r_lcmpge {o : Int} {a b : Int64} (X : Sd K T h cl sl) (cx : Cx K y bytes mx rt R) (hd : Db bytes pc (.ifCond .ge o) o pc' pt) (k1 : ¬ a < b → Run K Q T (mkF K.m pt L S)) (k2 : a < b → Run K Q T (mkF K.m pc' L S)) : Run K Q T (mkF K.m pc L (.int (XT.cmpL a b) :: S)) := by
  obtain ⟨locs, X0, -⟩ := X; obtain ⟨hx, -, hby, -⟩ := cx; obtain ⟨d, rfl, ho, hp⟩ := hd
  by_cases q : a < b
  · exact Run.st (fun t u => XS.ifNo X0.here hx rfl (hb hby d) rfl (XT.ll_ge_f q) u) (k2 q)
  · exact Run.st (fun t u => XS.ifYes X0.here hx rfl (pc0 := pc) rfl (hb hby d) rfl (XT.ll_ge_t q) ho hp u) (k1 q)
theorem r_icmpgt {o : Int} {a b : Int32} (X : Sd K T h cl sl) (cx : Cx K y bytes mx rt R) (hd : Db bytes pc (.if_icmp .gt o) o pc' pt) (k1 : b < a → Run K Q T (mkF K.m pt L S)) (k2 : ¬ b < a → Run K Q T (mkF K.m pc' L S)) : Run K Q T (mkF K.m pc L (.int b :: .int a :: S)) := by
  obtain ⟨locs, X0, -⟩ := X; obtain ⟨hx, -, hby, -⟩ := cx; obtain ⟨d, rfl, ho, hp⟩ := hd
  by_cases q : b < a
  · exact Run.st (fun t u => XS.icmpYes X0.here hx rfl (pc0 := pc) rfl (hb hby d) rfl (XT.ii_gt_t q) ho hp u) (k1 q)
  · exact Run.st (fun t u => XS.icmpNo X0.here hx rfl (hb hby d) rfl (XT.ii_gt_f q) u) (k2 q)
theorem r_ifgt {o : Int} {a : Int32} (X : Sd K T h cl sl) (cx : Cx K y bytes mx rt R) (hd : Db bytes pc (.ifCond .gt o) o pc' pt) (k1 : 0 < a → Run K Q T (mkF K.m pt L S)) (k2 : ¬ 0 < a → Run K Q T (mkF K.m pc' L S)) : Run K Q T (mkF K.m pc L (.int a :: S)) := by
  obtain ⟨locs, X0, -⟩ := X; obtain ⟨hx, -, hby, -⟩ := cx; obtain ⟨d, rfl, ho, hp⟩ := hd
  by_cases q : 0 < a
  · exact Run.st (fun t u => XS.ifYes X0.here hx rfl (pc0 := pc) rfl (hb hby d) rfl (XT.i0_gt_t q) ho hp u) (k1 q)
  · exact Run.st (fun t u => XS.ifNo X0.here hx rfl (hb hby d) rfl (XT.i0_gt_f q) u) (k2 q)
theorem r_lcmpgt {o : Int} {a b : Int64} (X : Sd K T h cl sl) (cx : Cx K y bytes mx rt R) (hd : Db bytes pc (.ifCond .gt o) o pc' pt) (k1 : b < a → Run K Q T (mkF K.m pt L S)) (k2 : ¬ b < a → Run K Q T (mkF K.m pc' L S)) : Run K Q T (mkF K.m pc L (.int (XT.cmpL a b) :: S)) := by
  obtain ⟨locs, X0, -⟩ := X; obtain ⟨hx, -, hby, -⟩ := cx; obtain ⟨d, rfl, ho, hp⟩ := hd
  by_cases q : b < a
  · exact Run.st (fun t u => XS.ifYes X0.here hx rfl (pc0 := pc) rfl (hb hby d) rfl (XT.ll_gt_t q) ho hp u) (k1 q)
  · exact Run.st (fun t u => XS.ifNo X0.here hx rfl (hb hby d) rfl (XT.ll_gt_f q) u) (k2 q)
theorem r_icmple {o : Int} {a b : Int32} (X : Sd K T h cl sl) (cx : Cx K y bytes mx rt R) (hd : Db bytes pc (.if_icmp .le o) o pc' pt) (k1 : ¬ b < a → Run K Q T (mkF K.m pt L S)) (k2 : b < a → Run K Q T (mkF K.m pc' L S)) : Run K Q T (mkF K.m pc L (.int b :: .int a :: S)) := by
  obtain ⟨locs, X0, -⟩ := X; obtain ⟨hx, -, hby, -⟩ := cx; obtain ⟨d, rfl, ho, hp⟩ := hd
  by_cases q : b < a
  · exact Run.st (fun t u => XS.icmpNo X0.here hx rfl (hb hby d) rfl (XT.ii_le_f q) u) (k2 q)
  · exact Run.st (fun t u => XS.icmpYes X0.here hx rfl (pc0 := pc) rfl (hb hby d) rfl (XT.ii_le_t q) ho hp u) (k1 q)
theorem r_ifle {o : Int} {a : Int32} (X : Sd K T h cl sl) (cx : Cx K y bytes mx rt R) (hd : Db bytes pc (.ifCond .le o) o pc' pt) (k1 : ¬ 0 < a → Run K Q T (mkF K.m pt L S)) (k2 : 0 < a → Run K Q T (mkF K.m pc' L S)) : Run K Q T (mkF K.m pc L (.int a :: S)) := by
  obtain ⟨locs, X0, -⟩ := X; obtain ⟨hx, -, hby, -⟩ := cx; obtain ⟨d, rfl, ho, hp⟩ := hd
  by_cases q : 0 < a
  · exact Run.st (fun t u => XS.ifNo X0.here hx rfl (hb hby d) rfl (XT.i0_le_f q) u) (k2 q)
  · exact Run.st (fun t u => XS.ifYes X0.here hx rfl (pc0 := pc) rfl (hb hby d) rfl (XT.i0_le_t q) ho hp u) (k1 q)
theorem r_lcmple {o : Int} {a b : Int64} (X : Sd K T h cl sl) (cx : Cx K y bytes mx rt R) (hd : Db bytes pc (.ifCond .le o) o pc' pt) (k1 : ¬ b < a → Run K Q T (mkF K.m pt L S)) (k2 : b < a → Run K Q T (mkF K.m pc' L S)) : Run K Q T (mkF K.m pc L (.int (XT.cmpL a b) :: S)) := by
  obtain ⟨locs, X0, -⟩ := X; obtain ⟨hx, -, hby, -⟩ := cx; obtain ⟨d, rfl, ho, hp⟩ := hd
  by_cases q : b < a
  · exact Run.st (fun t u => XS.ifNo X0.here hx rfl (hb hby d) rfl (XT.ll_le_f q) u) (k2 q)
  · exact Run.st (fun t u => XS.ifYes X0.here hx rfl (pc0 := pc) rfl (hb hby d) rfl (XT.ll_le_t q) ho hp u) (k1 q)
theorem r_ldc {i : Nat} {v : Int32} {a0 : Array Value} (X : Sd K T h cl sl) (cx : Cx K y bytes mx rt R) (hd : Dc bytes pc (.ldc i) 2 pc') (w : (Cond.constant y.cls i v).before a0 K.Z = true) (k : Run K Q T (mkF K.m pc' L (.int v :: S))) : Run K Q T (mkF K.m pc L S) := by
  obtain ⟨locs, X0, -⟩ := X; obtain ⟨hx, hZ, hby, -, hown, -⟩ := cx; obtain ⟨d, rfl⟩ := hd
  exact Run.st (fun t q => Jvm.Stand.ldcI X0 hx hown (mv hZ w) rfl (hb hby d) q) k
theorem r_ldcW {i : Nat} {v : Int32} {a0 : Array Value} (X : Sd K T h cl sl) (cx : Cx K y bytes mx rt R) (hd : Dc bytes pc (.ldc_w i) 3 pc') (w : (Cond.constant y.cls i v).before a0 K.Z = true) (k : Run K Q T (mkF K.m pc' L (.int v :: S))) : Run K Q T (mkF K.m pc L S) := by
  obtain ⟨locs, X0, -⟩ := X; obtain ⟨hx, hZ, hby, -, hown, -⟩ := cx; obtain ⟨d, rfl⟩ := hd
  exact Run.st (fun t q => Jvm.Stand.ldcWI X0 hx hown (mv hZ w) rfl (hb hby d) q) k
theorem r_ldc2 {i : Nat} {v : Int64} {a0 : Array Value} (X : Sd K T h cl sl) (cx : Cx K y bytes mx rt R) (hd : Dc bytes pc (.ldc2_w i) 3 pc') (w : (Cond.constantLong y.cls i v).before a0 K.Z = true) (k : Run K Q T (mkF K.m pc' L (.long v :: S))) : Run K Q T (mkF K.m pc L S) := by
  obtain ⟨locs, X0, -⟩ := X; obtain ⟨hx, hZ, hby, -, hown, -⟩ := cx; obtain ⟨d, rfl⟩ := hd
  exact Run.st (fun t q => Jvm.Stand.ldc2J X0 hx hown (mv hZ w) rfl (hb hby d) q) k
theorem fin {v : Option Value} (X : Sd K T h cl sl) (cx : Cx K y bytes mx rt R) (hv : rt = none → v = none) (hc : cl ≤ R.cells) (hs : sl ≤ R.slots) (hq : Q v h) {g : JFrame}
    (st : ∀ fs, (∀ (f : JFrame) (acts : List Action), f.method = K.m → f.locked = none → f.entered = [] → (doReturn K.e (T.setTop f) acts v).1 = T.setFrames fs) → Steps K.p.tables K.e K.below (T.setTop g) (T.setFrames fs)) : Run K Q T g := by
  obtain ⟨locs, X0, N, hz, eT⟩ := X
  obtain ⟨hx, hZ, hby, hml, hown, hret, hlk, hR, hnm⟩ := cx
  obtain ⟨fs, hr, hrun, hended, hW, hsame⟩ := X0.leave (v := v) (fun q => hv (hret.symm.trans q)) hlk
  refine ⟨_, v, locs, st fs hr, hrun, hended, ?_, N, ⟨_, rfl⟩, hW, hsame.mono (by rw [hR]; exact hc) (by rw [hR]; exact hs)⟩
  show Q v T.heap
  rw [eT]; exact hq
theorem r_ireturn {z : Int32} (X : Sd K T h cl sl) (cx : Cx K y bytes mx (some .int) R) (hd : Dc bytes pc .ireturn 1 pc') (hc : cl ≤ R.cells) (hs : sl ≤ R.slots) (hq : Q (some (.int z)) h) : Run K Q T (mkF K.m pc L (.int z :: S)) := by
  refine fin X cx (fun q => nomatch q) hc hs hq fun fs hr => ?_
  obtain ⟨locs, X0, -⟩ := X; obtain ⟨hx, -, hby, -, -, hret, -⟩ := cx; obtain ⟨d, rfl⟩ := hd
  exact retI X0 hx hret (hb hby d) hr
theorem r_zreturn {z : Int32} (X : Sd K T h cl sl) (cx : Cx K y bytes mx (some .boolean) R) (hd : Dc bytes pc .ireturn 1 pc') (hc : cl ≤ R.cells) (hs : sl ≤ R.slots) (hq : Q (some (.int (nar .boolean z))) h) : Run K Q T (mkF K.m pc L (.int z :: S)) := by
  refine fin X cx (fun q => nomatch q) hc hs hq fun fs hr => ?_
  obtain ⟨locs, X0, -⟩ := X; obtain ⟨hx, -, hby, -, -, hret, -⟩ := cx; obtain ⟨d, rfl⟩ := hd
  exact retN X0 hx (t := .boolean) hret (by simp) (hb hby d) hr
theorem r_lreturn {z : Int64} (X : Sd K T h cl sl) (cx : Cx K y bytes mx (some .long) R) (hd : Dc bytes pc .lreturn 1 pc') (hc : cl ≤ R.cells) (hs : sl ≤ R.slots) (hq : Q (some (.long z)) h) : Run K Q T (mkF K.m pc L [.long z]) := by
  refine fin X cx (fun q => nomatch q) hc hs hq fun fs hr => ?_
  obtain ⟨locs, X0, -⟩ := X; obtain ⟨hx, -, hby, -, -, hret, -⟩ := cx; obtain ⟨d, rfl⟩ := hd
  exact X0.lreturnOut hx hret (hb hby d) hr
theorem r_areturn {z : Addr} {ty : FieldType} (X : Sd K T h cl sl) (cx : Cx K y bytes mx (some ty) R) (hty : ty.isReference = true) (hd : Dc bytes pc .areturn 1 pc') (hc : cl ≤ R.cells) (hs : sl ≤ R.slots) (hq : Q (some (.ref z)) h) : Run K Q T (mkF K.m pc L [.ref z]) := by
  refine fin X cx (fun q => nomatch q) hc hs hq fun fs hr => ?_
  obtain ⟨locs, X0, -⟩ := X; obtain ⟨hx, -, hby, -, -, hret, -⟩ := cx; obtain ⟨d, rfl⟩ := hd
  exact X0.areturnOut hx rfl hret hty (hb hby d) hr
theorem r_return (X : Sd K T h cl sl) (cx : Cx K y bytes mx none R) (hd : Dc bytes pc .return_ 1 pc') (hc : cl ≤ R.cells) (hs : sl ≤ R.slots) (hq : Q none h) : Run K Q T (mkF K.m pc L []) := by
  refine fin X cx (fun _ => rfl) hc hs hq fun fs hr => ?_
  obtain ⟨locs, X0, -⟩ := X; obtain ⟨hx, -, hby, -, -, hret, -⟩ := cx; obtain ⟨d, rfl⟩ := hd
  exact X0.returnOut hx hret (hb hby d) hr
/-! fields -/
theorem r_getfield {O n d : String} {i : Nat} {a : Addr} {v : Value} {a0 : Array Value} (X : Sd K T h cl sl) (cx : Cx K y bytes mx rt R) (hd : Dc bytes pc (.getfield i) 3 pc') (w : (Cond.fieldLink y.cls i O n d).before a0 K.Z = true) (F : Fld K.Z h a O n d v) (k : ∀ T', Sd K T' h cl sl → Run K Q T' (mkF K.m pc' L (v :: S))) : Run K Q T (mkF K.m pc L (.ref a :: S)) := by
  obtain ⟨locs, X0, N, hz, eT⟩ := X; obtain ⟨hx, hZ, hby, -, hown, -⟩ := cx; obtain ⟨dd, rfl⟩ := hd
  obtain ⟨T1, X1, e1, st1⟩ := getF X0 hx hZ hown (host := "") (Or.inl w) Via.refl eT F (g := mkF K.m pc L (.ref a :: S)) rfl rfl (hb hby dd)
  exact Run.st st1 (k T1 ⟨locs, X1, N, hz, e1⟩)
theorem r_getfieldN {O n d host : String} {i : Nat} {a : Addr} {v : Value} {a0 : Array Value} (X : Sd K T h cl sl) (cx : Cx K y bytes mx rt R) (hd : Dc bytes pc (.getfield i) 3 pc') (w : (Cond.fieldLinkNest y.cls i O n d host).before a0 K.Z = true) (F : Fld K.Z h a O n d v) (k : ∀ T', Sd K T' h cl sl → Run K Q T' (mkF K.m pc' L (v :: S))) : Run K Q T (mkF K.m pc L (.ref a :: S)) := by
  obtain ⟨locs, X0, N, hz, eT⟩ := X; obtain ⟨hx, hZ, hby, -, hown, -⟩ := cx; obtain ⟨dd, rfl⟩ := hd
  obtain ⟨T1, X1, e1, st1⟩ := getF X0 hx hZ hown (host := host) (Or.inr w) Via.refl eT F (g := mkF K.m pc L (.ref a :: S)) rfl rfl (hb hby dd)
  exact Run.st st1 (k T1 ⟨locs, X1, N, hz, e1⟩)
theorem r_putfield {O n d C : String} {i kk : Nat} {a : Addr} {v old : Value} {ty : FieldType} {a0 : Array Value} (X : Sd K T h cl sl) (cx : Cx K y bytes mx rt R) (hd : Dc bytes pc (.putfield i) 3 pc') (w : (Cond.fieldLink y.cls i O n d).before a0 K.Z = true) (F : Fld K.Z h a O n d old) (E : Exa K.Z h a C) (hL : (Cond.lays C O n d).before a0 K.Z = true ∨ ((Cond.laysFinal C O n d).before a0 K.Z = true ∧ y.cls = O ∧ y.name = "<init>")) (wi : (Cond.instantiable C kk).before a0 K.Z = true)
    (hty : parseFieldDescriptor d = some ty) (hn : narrow ty v = v) (hf : fits ty v = true) (ge : K.n0 ≤ a) (k : ∀ T' h', Sd K T' h' cl sl → Wr h h' a (Jvm.RoadKit.slotOf K.Z O n d) v → Fld K.Z h' a O n d v → Run K Q T' (mkF K.m pc' L S)) : Run K Q T (mkF K.m pc L (v :: .ref a :: S)) := by
  obtain ⟨locs, X0, N, hz, eT⟩ := X; obtain ⟨hx, hZ, hby, -, hown, -, -, -, hnm⟩ := cx; obtain ⟨dd, rfl⟩ := hd
  obtain ⟨T1, h1, X1, e1, W1, st1⟩ := putF X0 hx hZ hown (host := "") (Or.inl w) Via.refl eT F E (hL.imp id fun q => ⟨q.1, q.2.1, hnm.trans q.2.2⟩) wi hty hn hf (g := mkF K.m pc L (v :: .ref a :: S)) rfl rfl (hb hby dd)
  exact Run.st st1 (k T1 h1 ⟨_, X1, Fr.snoc X1 N ge, by rw [W1.size]; exact hz, e1⟩ W1 (F.same W1))
theorem r_new {C : String} {i n : Nat} {a0 : Array Value} (X : Sd K T h cl sl) (cx : Cx K y bytes mx rt R) (hd : Dc bytes pc (.new i) 3 pc') (w : (Cond.classLink y.cls i C).before a0 K.Z = true) (wi : (Cond.instantiable C n).before a0 K.Z = true) (wz : (Cond.initialized C).before a0 K.Z = true) (hc : cl + 1 ≤ R.cells) (hs : sl + n ≤ R.slots)
    (k : ∀ T' h' a, a = h.size → K.n0 ≤ a → Sd K T' h' (cl + 1) (sl + n) → Ext h h' → Exa K.Z h' a C → (∀ {O nm d : String} {ty : FieldType}, Laid K.Z a0 C O nm d → parseFieldDescriptor d = some ty → Fld K.Z h' a O nm d (defaultValue ty)) → Run K Q T' (mkF K.m pc' L (.ref a :: S))) : Run K Q T (mkF K.m pc L S) := by
  obtain ⟨locs, X0, N, hz, eT⟩ := X; obtain ⟨hx, hZ, hby, -, hown, -, -, hR, -⟩ := cx; obtain ⟨dd, rfl⟩ := hd
  obtain ⟨T1, h1, X1, e1, E1, A1, D1, -, st1⟩ := newO X0 hx hZ hown w wi wz eT (g := mkF K.m pc L S) rfl (hb hby dd) (by rw [hR]; exact hc) (by rw [hR]; exact hs)
  exact Run.st st1 (k T1 h1 h.size rfl hz ⟨locs, X1, N, Nat.le_trans hz E1.1, e1⟩ E1 A1 D1)
theorem r_initO {i : Nat} {a : Addr} {a0 : Array Value} (X : Sd K T h cl sl) (cx : Cx K y bytes mx rt R) (hd : Dc bytes pc (.invokespecial i) 3 pc') (w1 : (Cond.methodLink y.cls i Lib.objectInit).before a0 K.Z = true) (w2 : (Cond.instanceMethod Lib.objectInit).before a0 K.Z = true) (w3 : (Cond.code Lib.objectInit ⟨#[0xb1]⟩ 1 none).before a0 K.Z = true) (hsz : L.size = mx) (hf : 1 ≤ R.frames) (hl : (S.map fun v => v.category).sum + 12 ≤ R.locals) (k : ∀ T', Sd K T' h cl sl → Run K Q T' (mkF K.m pc' L S)) : Run K Q T (mkF K.m pc L (.ref a :: S)) := by
  obtain ⟨locs, X0, N, hz, eT⟩ := X; obtain ⟨hx, hZ, hby, hml, hown, -, -, hR, -⟩ := cx; obtain ⟨dd, rfl⟩ := hd
  obtain ⟨T1, X1, e1, st1⟩ := initO X0 hx hZ hown w1 w2 w3 eT (g := mkF K.m pc L (.ref a :: S)) rfl (by rw [hml]; exact hsz) rfl (hb hby dd) (by rw [hR]; exact hf) (W := (S.map fun v => v.category).sum) (by show 2 * 0 + _ ≤ _; omega) (by rw [hR]; exact hl)
  exact Run.st st1 (k T1 ⟨locs, X1, N, hz, e1⟩)
end Rules
/-! arrays: their whole list of values -/
def AV (Z : State) (h : Heap) (a : Addr) (ty : FieldType) (vs : List Value) : Prop := ∃ c : Cell, Arr Z h a c ty ∧ c.slots.toList = vs ∧ vs.length < 2 ^ 31
def AI (ty : FieldType) (Z : State) (h : Heap) (a : Addr) (xs : List Int32) : Prop := AV Z h a ty (xs.map Value.int)
def AJ (Z : State) (h : Heap) (a : Addr) (xs : List Int64) : Prop := AV Z h a .long (xs.map Value.long)
theorem AV.ext {Z : State} {h h' : Heap} {a : Addr} {ty : FieldType} {vs : List Value} (A : AV Z h a ty vs) (E : Ext h h') : AV Z h' a ty vs := by obtain ⟨c, q, r⟩ := A; exact ⟨c, q.ext E, r⟩
theorem AV.other {Z : State} {h h' : Heap} {a b : Addr} {ty : FieldType} {vs : List Value} {sl : Nat} {v : Value} (A : AV Z h a ty vs) (W : Wr h h' b sl v) (q : a ≠ b) : AV Z h' a ty vs := by obtain ⟨c, u, r⟩ := A; exact ⟨c, u.other W q, r⟩
theorem AV.keep {Z : State} {h h' : Heap} {a : Addr} {ty : FieldType} {vs : List Value} {ws : List Addr} (A : AV Z h a ty vs) (k : Keep h h' ws) (q : a ∉ ws) : AV Z h' a ty vs := by obtain ⟨c, u, r⟩ := A; exact ⟨c, ⟨k.2.1 a c u.1 q, u.2⟩, r⟩
theorem AV.lt {Z : State} {h : Heap} {a : Addr} {ty : FieldType} {vs : List Value} (A : AV Z h a ty vs) : a < h.size := by obtain ⟨c, u, r⟩ := A; exact u.lt
theorem AV.len {Z : State} {h : Heap} {a : Addr} {ty : FieldType} {vs : List Value} (A : AV Z h a ty vs) : vs.length < 2 ^ 31 := by obtain ⟨c, u, r, q⟩ := A; exact q
theorem AV.set {Z : State} {h h' : Heap} {a : Addr} {ty : FieldType} {vs : List Value} {n : Nat} {v : Value} (A : AV Z h a ty vs) (W : Wr h h' a n v) : AV Z h' a ty (vs.set n v) := by
  obtain ⟨c, u, r, q⟩ := A
  refine ⟨_, u.same W, ?_, by simpa using q⟩
  subst r
  simp [Cell.setSlot]
section
variable {ty : FieldType} {Z : State} {h h' : Heap} {a b : Addr} {xs : List Int32} {zs : List Int64} {sl : Nat} {v : Value} {ws : List Addr}
theorem AI.ext (A : AI ty Z h a xs) (E : Ext h h') : AI ty Z h' a xs := AV.ext A E
theorem AI.other (A : AI ty Z h a xs) (W : Wr h h' b sl v) (q : a ≠ b) : AI ty Z h' a xs := AV.other A W q
theorem AI.keep (A : AI ty Z h a xs) (k : Keep h h' ws) (q : a ∉ ws) : AI ty Z h' a xs := AV.keep A k q
theorem AI.lt (A : AI ty Z h a xs) : a < h.size := AV.lt A
theorem AI.len (A : AI ty Z h a xs) : xs.length < 2 ^ 31 := by simpa using AV.len A
theorem AI.set {n : Nat} {x : Int32} (A : AI ty Z h a xs) (W : Wr h h' a n (.int x)) : AI ty Z h' a (xs.set n x) := by
  have q := AV.set A W
  show AV Z h' a ty ((xs.set n x).map Value.int)
  rw [List.map_set]; exact q
theorem AJ.ext (A : AJ Z h a zs) (E : Ext h h') : AJ Z h' a zs := AV.ext A E
theorem AJ.other (A : AJ Z h a zs) (W : Wr h h' b sl v) (q : a ≠ b) : AJ Z h' a zs := AV.other A W q
theorem AJ.keep (A : AJ Z h a zs) (k : Keep h h' ws) (q : a ∉ ws) : AJ Z h' a zs := AV.keep A k q
theorem AJ.lt (A : AJ Z h a zs) : a < h.size := AV.lt A
theorem AJ.len (A : AJ Z h a zs) : zs.length < 2 ^ 31 := by simpa using AV.len A
theorem AJ.set {n : Nat} {x : Int64} (A : AJ Z h a zs) (W : Wr h h' a n (.long x)) : AJ Z h' a (zs.set n x) := by
  have q := AV.set A W
  show AV Z h' a .long ((zs.set n x).map Value.long)
  rw [List.map_set]; exact q
end
theorem ofNat_neg {n : Nat} (hn : n < 2 ^ 31) : ¬ Int32.ofNat n < 0 := by
  rw [Int32.lt_iff_toInt_lt, Int32.toInt_ofNat_of_lt hn]
  show ¬ (n : Int) < 0
  omega
theorem ofNat_clamp {n : Nat} (hn : n < 2 ^ 31) : (Int32.ofNat n).toNatClampNeg = n := by
  show (Int32.ofNat n).toInt.toNat = n
  rw [Int32.toInt_ofNat_of_lt hn]; rfl
section Rules
variable {K : KT} {Q : Option Value → Heap → Prop} {T : State} {h : Heap} {cl sl : Nat} {y : MethodName} {bytes : ByteArray} {mx : Nat} {rt : Option FieldType} {R : Room} {pc pc' pt : Nat} {L : Array Slot} {S : List Value}
theorem r_arraylength {ty : FieldType} {vs : List Value} {a : Addr} (X : Sd K T h cl sl) (cx : Cx K y bytes mx rt R) (hd : Dc bytes pc .arraylength 1 pc') (A : AV K.Z h a ty vs) (k : Run K Q T (mkF K.m pc' L (.int (Int32.ofNat vs.length) :: S))) : Run K Q T (mkF K.m pc L (.ref a :: S)) := by
  obtain ⟨locs, X0, N, hz, eT⟩ := X; obtain ⟨hx, hZ, hby, -, hown, -⟩ := cx; obtain ⟨dd, rfl⟩ := hd
  obtain ⟨c, Ar, hc, hlen⟩ := A
  have hs : c.slots.size = vs.length := by rw [← hc]; simp
  refine Run.st (X0.arraylength hx (cell := c) (by rw [eT]; exact Ar.1) (State.isArrayOf_alike hZ.alike Ar.2.1) (g := mkF K.m pc L (.ref a :: S)) rfl (rest := S) rfl (hb hby dd)) ?_
  rw [hs]; exact k
theorem r_alen {ty : FieldType} {xs : List Int32} {a : Addr} (X : Sd K T h cl sl) (cx : Cx K y bytes mx rt R) (hd : Dc bytes pc .arraylength 1 pc') (A : AI ty K.Z h a xs) (n : Nat) (hn : xs.length = n) (k : Run K Q T (mkF K.m pc' L (.int (Int32.ofNat n) :: S))) : Run K Q T (mkF K.m pc L (.ref a :: S)) :=
  r_arraylength X cx hd A (by rw [List.length_map, hn]; exact k)
theorem r_alenJ {xs : List Int64} {a : Addr} (X : Sd K T h cl sl) (cx : Cx K y bytes mx rt R) (hd : Dc bytes pc .arraylength 1 pc') (A : AJ K.Z h a xs) (n : Nat) (hn : xs.length = n) (k : Run K Q T (mkF K.m pc' L (.int (Int32.ofNat n) :: S))) : Run K Q T (mkF K.m pc L (.ref a :: S)) :=
  r_arraylength X cx hd A (by rw [List.length_map, hn]; exact k)
theorem r_iaload {xs : List Int32} {a : Addr} {j : Int32} {v : Int32} (X : Sd K T h cl sl) (cx : Cx K y bytes mx rt R) (hd : Dc bytes pc .iaload 1 pc') (A : AI .int K.Z h a xs) (n : Nat) (hj : j = Int32.ofNat n) (hv : xs[n]? = some v) (k : Run K Q T (mkF K.m pc' L (.int v :: S))) : Run K Q T (mkF K.m pc L (.int j :: .ref a :: S)) := by
  obtain ⟨locs, X0, N, hz, eT⟩ := X; obtain ⟨hx, hZ, hby, -, hown, -⟩ := cx; obtain ⟨dd, rfl⟩ := hd
  obtain ⟨c, Ar, hc, hlen⟩ := A
  have hs : c.slots.size = xs.length := by have := congrArg List.length hc; simpa using this
  have hl : n < xs.length := (List.getElem?_eq_some_iff.mp hv).1
  have hn : n < 2 ^ 31 := by simp at hlen; omega
  subst hj
  have e1 := ofNat_clamp hn
  have hat : c.slots[(Int32.ofNat n).toNatClampNeg]? = some (.int v) := by
    rw [e1, ← Array.getElem?_toList, hc, List.getElem?_map, hv]; rfl
  exact Run.st (X0.iaload hx (cell := c) (by rw [eT]; exact Ar.1) (State.isArrayOf_alike hZ.alike Ar.2.1) Ar.2.2 (by rw [e1, hs]; intro q; rcases q with q | q; exact ofNat_neg hn q; omega) hat (g := mkF K.m pc L (.int (Int32.ofNat n) :: .ref a :: S)) rfl rfl (hb hby dd)) k
theorem r_saload {xs : List Int32} {a : Addr} {j : Int32} {v : Int32} (X : Sd K T h cl sl) (cx : Cx K y bytes mx rt R) (hd : Dc bytes pc .saload 1 pc') (A : AI .short K.Z h a xs) (n : Nat) (hj : j = Int32.ofNat n) (hv : xs[n]? = some v) (k : Run K Q T (mkF K.m pc' L (.int v :: S))) : Run K Q T (mkF K.m pc L (.int j :: .ref a :: S)) := by
  obtain ⟨locs, X0, N, hz, eT⟩ := X; obtain ⟨hx, hZ, hby, -, hown, -⟩ := cx; obtain ⟨dd, rfl⟩ := hd
  obtain ⟨c, Ar, hc, hlen⟩ := A
  have hs : c.slots.size = xs.length := by have := congrArg List.length hc; simpa using this
  have hl : n < xs.length := (List.getElem?_eq_some_iff.mp hv).1
  have hn : n < 2 ^ 31 := by simp at hlen; omega
  subst hj
  have e1 := ofNat_clamp hn
  have hat : c.slots[(Int32.ofNat n).toNatClampNeg]? = some (.int v) := by
    rw [e1, ← Array.getElem?_toList, hc, List.getElem?_map, hv]; rfl
  exact Run.st (X0.saload hx (cell := c) (by rw [eT]; exact Ar.1) (State.isArrayOf_alike hZ.alike Ar.2.1) Ar.2.2 (by rw [e1, hs]; intro q; rcases q with q | q; exact ofNat_neg hn q; omega) hat (g := mkF K.m pc L (.int (Int32.ofNat n) :: .ref a :: S)) rfl rfl (hb hby dd)) k
theorem r_baload {xs : List Int32} {a : Addr} {j : Int32} {v : Int32} (X : Sd K T h cl sl) (cx : Cx K y bytes mx rt R) (hd : Dc bytes pc .baload 1 pc') (A : AI .byte K.Z h a xs) (n : Nat) (hj : j = Int32.ofNat n) (hv : xs[n]? = some v) (k : Run K Q T (mkF K.m pc' L (.int v :: S))) : Run K Q T (mkF K.m pc L (.int j :: .ref a :: S)) := by
  obtain ⟨locs, X0, N, hz, eT⟩ := X; obtain ⟨hx, hZ, hby, -, hown, -⟩ := cx; obtain ⟨dd, rfl⟩ := hd
  obtain ⟨c, Ar, hc, hlen⟩ := A
  have hs : c.slots.size = xs.length := by have := congrArg List.length hc; simpa using this
  have hl : n < xs.length := (List.getElem?_eq_some_iff.mp hv).1
  have hn : n < 2 ^ 31 := by simp at hlen; omega
  subst hj
  have e1 := ofNat_clamp hn
  have hat : c.slots[(Int32.ofNat n).toNatClampNeg]? = some (.int v) := by
    rw [e1, ← Array.getElem?_toList, hc, List.getElem?_map, hv]; rfl
  exact Run.st (X0.baloadBytes hx (cell := c) (by rw [eT]; exact Ar.1) (State.isArrayOf_alike hZ.alike Ar.2.1) Ar.2.2 (by rw [e1, hs]; intro q; rcases q with q | q; exact ofNat_neg hn q; omega) hat (g := mkF K.m pc L (.int (Int32.ofNat n) :: .ref a :: S)) rfl rfl (hb hby dd)) k
theorem r_laload {xs : List Int64} {a : Addr} {j : Int32} {v : Int64} (X : Sd K T h cl sl) (cx : Cx K y bytes mx rt R) (hd : Dc bytes pc .laload 1 pc') (A : AJ K.Z h a xs) (n : Nat) (hj : j = Int32.ofNat n) (hv : xs[n]? = some v) (k : Run K Q T (mkF K.m pc' L (.long v :: S))) : Run K Q T (mkF K.m pc L (.int j :: .ref a :: S)) := by
  obtain ⟨locs, X0, N, hz, eT⟩ := X; obtain ⟨hx, hZ, hby, -, hown, -⟩ := cx; obtain ⟨dd, rfl⟩ := hd
  obtain ⟨c, Ar, hc, hlen⟩ := A
  have hs : c.slots.size = xs.length := by have := congrArg List.length hc; simpa using this
  have hl : n < xs.length := (List.getElem?_eq_some_iff.mp hv).1
  have hn : n < 2 ^ 31 := by simp at hlen; omega
  subst hj
  have e1 := ofNat_clamp hn
  have hat : c.slots[(Int32.ofNat n).toNatClampNeg]? = some (.long v) := by
    rw [e1, ← Array.getElem?_toList, hc, List.getElem?_map, hv]; rfl
  exact Run.st (X0.laload hx (cell := c) (by rw [eT]; exact Ar.1) (State.isArrayOf_alike hZ.alike Ar.2.1) Ar.2.2 (by rw [e1, hs]; intro q; rcases q with q | q; exact ofNat_neg hn q; omega) hat (g := mkF K.m pc L (.int (Int32.ofNat n) :: .ref a :: S)) rfl rfl (hb hby dd)) k
theorem r_iastore {xs : List Int32} {a : Addr} {j : Int32} {x : Int32} (X : Sd K T h cl sl) (cx : Cx K y bytes mx rt R) (hd : Dc bytes pc .iastore 1 pc') (A : AI .int K.Z h a xs) (n : Nat) (hj : j = Int32.ofNat n) (hl : n < xs.length) (ge : K.n0 ≤ a) (k : ∀ T' h', Sd K T' h' cl sl → Wr h h' a n (.int x) → AI .int K.Z h' a (xs.set n x) → Run K Q T' (mkF K.m pc' L S)) : Run K Q T (mkF K.m pc L (.int x :: .int j :: .ref a :: S)) := by
  obtain ⟨locs, X0, N, hz, eT⟩ := X; obtain ⟨hx, hZ, hby, -, hown, -⟩ := cx; obtain ⟨dd, rfl⟩ := hd
  have A0 := A
  obtain ⟨c, Ar, hc, hlen⟩ := A
  have hs : c.slots.size = xs.length := by have := congrArg List.length hc; simpa using this
  have hn : n < 2 ^ 31 := by simp at hlen; omega
  subst hj
  have e1 := ofNat_clamp hn
  obtain ⟨T1, h1, X1, eh1, W1, st1⟩ := stI X0 hx hZ eT Ar (j := Int32.ofNat n) (x := x) (by rw [e1, hs]; intro q; rcases q with q | q; exact ofNat_neg hn q; omega) (g := mkF K.m pc L (.int x :: .int (Int32.ofNat n) :: .ref a :: S)) rfl rfl (hb hby dd)
  have hz1 : K.n0 ≤ h1.size := by rw [W1.size]; exact hz
  have N1 := Fr.snoc X1 N ge
  rw [e1] at W1
  exact Run.st st1 (k T1 h1 ⟨_, X1, N1, hz1, eh1⟩ W1 (AI.set A0 W1))
theorem r_sastore {xs : List Int32} {a : Addr} {j : Int32} {x : Int32} (X : Sd K T h cl sl) (cx : Cx K y bytes mx rt R) (hd : Dc bytes pc .sastore 1 pc') (A : AI .short K.Z h a xs) (n : Nat) (hj : j = Int32.ofNat n) (hl : n < xs.length) (ge : K.n0 ≤ a) (k : ∀ T' h', Sd K T' h' cl sl → Wr h h' a n (.int (nar .short x)) → AI .short K.Z h' a (xs.set n (nar .short x)) → Run K Q T' (mkF K.m pc' L S)) : Run K Q T (mkF K.m pc L (.int x :: .int j :: .ref a :: S)) := by
  obtain ⟨locs, X0, N, hz, eT⟩ := X; obtain ⟨hx, hZ, hby, -, hown, -⟩ := cx; obtain ⟨dd, rfl⟩ := hd
  have A0 := A
  obtain ⟨c, Ar, hc, hlen⟩ := A
  have hs : c.slots.size = xs.length := by have := congrArg List.length hc; simpa using this
  have hn : n < 2 ^ 31 := by simp at hlen; omega
  subst hj
  have e1 := ofNat_clamp hn
  obtain ⟨T1, h1, X1, eh1, W1, st1⟩ := stS X0 hx hZ eT Ar (j := Int32.ofNat n) (x := x) (by rw [e1, hs]; intro q; rcases q with q | q; exact ofNat_neg hn q; omega) (g := mkF K.m pc L (.int x :: .int (Int32.ofNat n) :: .ref a :: S)) rfl rfl (hb hby dd)
  have hz1 : K.n0 ≤ h1.size := by rw [W1.size]; exact hz
  have N1 := Fr.snoc X1 N ge
  rw [e1] at W1
  exact Run.st st1 (k T1 h1 ⟨_, X1, N1, hz1, eh1⟩ W1 (AI.set A0 W1))
theorem r_bastore {xs : List Int32} {a : Addr} {j : Int32} {x : Int32} (X : Sd K T h cl sl) (cx : Cx K y bytes mx rt R) (hd : Dc bytes pc .bastore 1 pc') (A : AI .byte K.Z h a xs) (n : Nat) (hj : j = Int32.ofNat n) (hl : n < xs.length) (ge : K.n0 ≤ a) (k : ∀ T' h', Sd K T' h' cl sl → Wr h h' a n (.int (nar .byte x)) → AI .byte K.Z h' a (xs.set n (nar .byte x)) → Run K Q T' (mkF K.m pc' L S)) : Run K Q T (mkF K.m pc L (.int x :: .int j :: .ref a :: S)) := by
  obtain ⟨locs, X0, N, hz, eT⟩ := X; obtain ⟨hx, hZ, hby, -, hown, -⟩ := cx; obtain ⟨dd, rfl⟩ := hd
  have A0 := A
  obtain ⟨c, Ar, hc, hlen⟩ := A
  have hs : c.slots.size = xs.length := by have := congrArg List.length hc; simpa using this
  have hn : n < 2 ^ 31 := by simp at hlen; omega
  subst hj
  have e1 := ofNat_clamp hn
  obtain ⟨T1, h1, X1, eh1, W1, st1⟩ := stB X0 hx hZ eT Ar (j := Int32.ofNat n) (x := x) (by rw [e1, hs]; intro q; rcases q with q | q; exact ofNat_neg hn q; omega) (g := mkF K.m pc L (.int x :: .int (Int32.ofNat n) :: .ref a :: S)) rfl rfl (hb hby dd)
  have hz1 : K.n0 ≤ h1.size := by rw [W1.size]; exact hz
  have N1 := Fr.snoc X1 N ge
  rw [e1] at W1
  exact Run.st st1 (k T1 h1 ⟨_, X1, N1, hz1, eh1⟩ W1 (AI.set A0 W1))
theorem r_lastore {xs : List Int64} {a : Addr} {j : Int32} {x : Int64} (X : Sd K T h cl sl) (cx : Cx K y bytes mx rt R) (hd : Dc bytes pc .lastore 1 pc') (A : AJ K.Z h a xs) (n : Nat) (hj : j = Int32.ofNat n) (hl : n < xs.length) (ge : K.n0 ≤ a) (k : ∀ T' h', Sd K T' h' cl sl → Wr h h' a n (.long x) → AJ K.Z h' a (xs.set n x) → Run K Q T' (mkF K.m pc' L S)) : Run K Q T (mkF K.m pc L (.long x :: .int j :: .ref a :: S)) := by
  obtain ⟨locs, X0, N, hz, eT⟩ := X; obtain ⟨hx, hZ, hby, -, hown, -⟩ := cx; obtain ⟨dd, rfl⟩ := hd
  have A0 := A
  obtain ⟨c, Ar, hc, hlen⟩ := A
  have hs : c.slots.size = xs.length := by have := congrArg List.length hc; simpa using this
  have hn : n < 2 ^ 31 := by simp at hlen; omega
  subst hj
  have e1 := ofNat_clamp hn
  obtain ⟨T1, h1, X1, eh1, W1, st1⟩ := stJ X0 hx hZ eT Ar (j := Int32.ofNat n) (x := x) (by rw [e1, hs]; intro q; rcases q with q | q; exact ofNat_neg hn q; omega) (g := mkF K.m pc L (.long x :: .int (Int32.ofNat n) :: .ref a :: S)) rfl rfl (hb hby dd)
  have hz1 : K.n0 ≤ h1.size := by rw [W1.size]; exact hz
  have N1 := Fr.snoc X1 N ge
  rw [e1] at W1
  exact Run.st st1 (k T1 h1 ⟨_, X1, N1, hz1, eh1⟩ W1 (AJ.set A0 W1))
theorem r_newarray {aty : ArrayType} {a0 : Array Value} {z : Int32} (X : Sd K T h cl sl) (cx : Cx K y bytes mx rt R) (hd : Dc bytes pc (.newarray aty) 2 pc') (w : (Cond.arrayClass (newarray.typeOf aty)).before a0 K.Z = true) (n cap : Nat) (hj : z = Int32.ofNat n) (hcap : n ≤ cap) (hb8 : cap * 8 ≤ 536870912) (hc : cl + 1 ≤ R.cells) (hs : sl + cap ≤ R.slots)
    (k : ∀ T' h' a, a = h.size → K.n0 ≤ a → Sd K T' h' (cl + 1) (sl + cap) → Ext h h' → AV K.Z h' a (newarray.typeOf aty) (List.replicate n (defaultValue (newarray.typeOf aty))) → Run K Q T' (mkF K.m pc' L (.ref a :: S))) : Run K Q T (mkF K.m pc L (.int z :: S)) := by
  obtain ⟨locs, X0, N, hz, eT⟩ := X; obtain ⟨hx, hZ, hby, -, hown, -, -, hR, -⟩ := cx; obtain ⟨dd, rfl⟩ := hd
  have hn : n < 2 ^ 31 := by omega
  subst hj
  have e1 := ofNat_clamp hn
  obtain ⟨T1, h1, cA, X1, eh1, E1, A1, st1⟩ := newP X0 hx hZ w eT (g := mkF K.m pc L (.int (Int32.ofNat n) :: S)) rfl (hb hby dd) (n := Int32.ofNat n) rfl (ofNat_neg hn) (cap := cap) (by rw [e1]; exact hcap) hb8 (by rw [hR]; exact hc) (by rw [hR]; exact hs)
  refine Run.st st1 (k T1 h1 h.size rfl hz ⟨locs, X1, N, Nat.le_trans hz E1.1, eh1⟩ E1 ⟨_, A1, ?_, by simpa using hn⟩)
  simp [newA, e1]
theorem AI.new {ty : FieldType} {Z : State} {h : Heap} {a : Addr} {n : Nat} (A : AV Z h a ty (List.replicate n (.int 0))) : AI ty Z h a (List.replicate n 0) := by
  show AV Z h a ty _
  rw [List.map_replicate]; exact A
theorem AJ.new {Z : State} {h : Heap} {a : Addr} {n : Nat} (A : AV Z h a .long (List.replicate n (.long 0))) : AJ Z h a (List.replicate n 0) := by
  show AV Z h a .long _
  rw [List.map_replicate]; exact A
end Rules
/-! contracts and calls -/
def Con (l : Launch) (Z : State) (y : MethodName) (bytes : ByteArray) (mx : Nat) (rt : Option FieldType) (rm : Room) (as : Array Value) (h0 : Heap) (n0 : Nat) (Q : Option Value → Heap → Prop) : Prop :=
  ∀ ws, MetFree l y (head1 (Jvm.Cond.code y bytes mx rt :: ws) rm) (fun a U => a = as ∧ Z.Warmed39 U.vm ∧ U.heap = h0) (fun _ _ _ _ _ => True) (fun _ U o U' => ∃ v L, o = .returned v ∧ (Q v U'.heap ∧ Fr n0 L) ∧ FrameEnd U o U' L rm.cells rm.slots)
theorem Con.of {l : Launch} {Z : State} {y : MethodName} {bytes : ByteArray} {mx : Nat} {rt : Option FieldType} {rm : Room} {as : Array Value} {h0 : Heap} {n0 : Nat} {Q : Option Value → Heap → Prop} (hy : plainFor y = true) (Z0 : n0 ≤ h0.size)
    (body : ∀ K : KT, K.l = l → K.Z = Z → K.n0 = n0 → Cx K y bytes mx rt rm → ∀ T, Sd K T h0 0 0 → Run K Q T (entryFrame K.m as mx)) : Con l Z y bytes mx rt rm as h0 n0 Q := by
  intro ws
  refine MetFree.of_bodySF hy hisR ?_
  intro p e s m args below meth c s₁ Bd hml0 hP hK
  obtain ⟨rfl, hZ, hh⟩ := hP
  have hown : s.vm.findClass y.cls = some m.cls := findClass_of_methodNamed Bd.named
  have hnm := (name_of_methodNamed Bd.named Bd.method).1
  have X0 : Stand p l e rm s m args below meth c s₁ [] 0 0 := Stand.of_body Bd
  have e0 : s₁.heap = h0 := by rw [← hh, Bd.state]; rfl
  obtain ⟨s₂, v, L, h1, h2, h3, h4, h5, h6⟩ := body (p, l, e, rm, s, m, args, below, meth, c, Z, n0) rfl rfl rfl ⟨Bd.exec, hZ, Bd.bytes, hml0, hown, Bd.returns, Bd.notSynchronized, rfl, hnm⟩ s₁ ⟨[], X0, Fr.nil n0, Z0, e0⟩
  exact ⟨s₂, _, h1, h2, h3, v, L, rfl, ⟨h4, h5⟩, h6⟩
section Calls
variable {K : KT} {Q : Option Value → Heap → Prop} {T : State} {h : Heap} {cl sl : Nat} {y : MethodName} {bytes : ByteArray} {mx : Nat} {rt : Option FieldType} {R : Room} {pc pc' pt : Nat} {L : Array Slot}
theorem r_static {z : MethodName} {zb : ByteArray} {zm : Nat} {zr : Option FieldType} {rm : Room} {i : Nat} {a0 : Array Value} {Qz : Option Value → Heap → Prop} {St : List Value} (argsL rest : List Value) (X : Sd K T h cl sl) (cx : Cx K y bytes mx rt R) (hd : Dc bytes pc (.invokestatic i) 3 pc')
    (w1 : (Cond.methodLink y.cls i z).before a0 K.Z = true) (w2 : (Cond.static z).before a0 K.Z = true) (w3 : (Cond.initialized z.cls).before a0 K.Z = true) (w4 : (Cond.code z zb zm zr).before a0 K.Z = true) (hm : z.cls ≠ "java/lang/invoke/MethodHandle" ∧ z.cls ≠ "java/lang/invoke/VarHandle")
    (con : Con K.l K.Z z zb zm zr rm argsL.toArray h K.n0 Qz) (hpd : ∀ sig, parseMethodDescriptor z.desc = some sig → argsL.length = sig.parameters.length) (hSt : St = argsL.reverse ++ rest) (hsz : L.size = mx) (hf : rm.frames + 1 ≤ R.frames) (hl : (rest.map fun v => v.category).sum + (zm + 11) + rm.locals ≤ R.locals) (hc : cl + rm.cells ≤ R.cells) (hs : sl + rm.slots ≤ R.slots)
    (k : ∀ T' h' v, Sd K T' h' (cl + rm.cells) (sl + rm.slots) → Qz v h' → Run K Q T' (mkF K.m pc' L (v.toList ++ rest))) (hmono : ∀ v h', Qz v h' → h.size ≤ h'.size) : Run K Q T (mkF K.m pc L St) := by
  obtain ⟨locs, X0, N, hz, eT⟩ := X; obtain ⟨hx, hZ, hby, hml, hown, -, -, hR, -⟩ := cx; obtain ⟨dd, rfl⟩ := hd
  obtain ⟨v, _, ⟨T1, L1, k1, n1⟩, -, X1, ⟨Lc, ⟨hQ, hF⟩, l1, y1, z1⟩, st1⟩ := Jvm.LawKit.callS X0 hx (y := z) hown (mvT hZ w1) (mvT hZ w2) (mvT hZ w3) (mvT hZ w4) hm (backOf (W := (rest.map fun v => v.category).sum) (Q := fun v h L => Qz v h ∧ Fr K.n0 L) (con []) hZ w4 w3 (by rw [hR]; exact hf) (by rw [hR]; exact hl)) (g := mkF K.m pc L St) rfl (by rw [hml]; exact hsz) (argsL := argsL) (rest := rest) hpd hSt (by show 2 * 0 + _ ≤ _; omega) (hb hby dd) (fun _ _ => ⟨rfl, eT, by rw [hR]; exact hc, by rw [hR]; exact hs⟩)
  dsimp only [Pt.U, Pt.locs, Pt.cells, Pt.slots] at X1 l1 y1 z1 st1 hQ
  subst l1 y1 z1
  exact Run.st st1 (k T1 _ v ⟨_, X1, Fr.app N hF, Nat.le_trans hz (hmono _ _ hQ), rfl⟩ hQ)
theorem r_virtual {z : MethodName} {C : String} {zb : ByteArray} {zm : Nat} {zr : Option FieldType} {rm : Room} {i : Nat} {a : Addr} {a0 : Array Value} {Qz : Option Value → Heap → Prop} {St : List Value} (argsL rest : List Value) (X : Sd K T h cl sl) (cx : Cx K y bytes mx rt R) (hd : Dc bytes pc (.invokevirtual i) 3 pc') (E : Exa K.Z h a C)
    (w1 : (Cond.methodLink y.cls i z).before a0 K.Z = true) (w2 : (Cond.declares z).before a0 K.Z = true) (w3 : (Cond.selects C z z).before a0 K.Z = true) (w4 : (Cond.instanceMethod z).before a0 K.Z = true) (w5 : (Cond.initialized z.cls).before a0 K.Z = true) (w6 : (Cond.code z zb zm zr).before a0 K.Z = true) (hm : z.cls ≠ "java/lang/invoke/MethodHandle" ∧ z.cls ≠ "java/lang/invoke/VarHandle")
    (con : Con K.l K.Z z zb zm zr rm (.ref a :: argsL).toArray h K.n0 Qz) (hpd : ∀ sig, parseMethodDescriptor z.desc = some sig → argsL.length = sig.parameters.length) (hSt : St = argsL.reverse ++ .ref a :: rest) (hsz : L.size = mx) (hf : rm.frames + 1 ≤ R.frames) (hl : (rest.map fun v => v.category).sum + (zm + 11) + rm.locals ≤ R.locals) (hc : cl + rm.cells ≤ R.cells) (hs : sl + rm.slots ≤ R.slots)
    (k : ∀ T' h' v, Sd K T' h' (cl + rm.cells) (sl + rm.slots) → Qz v h' → Run K Q T' (mkF K.m pc' L (v.toList ++ rest))) (hmono : ∀ v h', Qz v h' → h.size ≤ h'.size) : Run K Q T (mkF K.m pc L St) := by
  obtain ⟨locs, X0, N, hz, eT⟩ := X; obtain ⟨hx, hZ, hby, hml, hown, -, -, hR, -⟩ := cx; obtain ⟨dd, rfl⟩ := hd
  obtain ⟨cq, kq, qa, qb, qc⟩ := isOf hZ eT E
  obtain ⟨v, _, ⟨T1, L1, k1, n1⟩, -, X1, ⟨Lc, ⟨hQ, hF⟩, l1, y1, z1⟩, st1⟩ := X0.virtualBack hx (y := z) (z := z) hown (mvT hZ w1) (mvT hZ w2) (notFace_of_selects (args := #[]) (mvT hZ w3)) (mvT hZ w3) (mvT hZ w4) hm (backOf (W := (rest.map fun v => v.category).sum) (Q := fun v h L => Qz v h ∧ Fr K.n0 L) (con []) hZ w6 w5 (by rw [hR]; exact hf) (by rw [hR]; exact hl)) qa qc (g := mkF K.m pc L St) rfl (by rw [hml]; exact hsz) (Steps.refl _) (argsL := argsL) (rest := rest) hpd hSt (by show 2 * 0 + _ ≤ _; omega) (hb hby dd) (fun _ _ => ⟨rfl, eT, by rw [hR]; exact hc, by rw [hR]; exact hs⟩)
  dsimp only [Pt.U, Pt.locs, Pt.cells, Pt.slots] at X1 l1 y1 z1 st1 hQ
  subst l1 y1 z1
  exact Run.st (fun t q => st1.trans q) (k T1 _ v ⟨_, X1, Fr.app N hF, Nat.le_trans hz (hmono _ _ hQ), rfl⟩ hQ)
theorem r_private {z z' : MethodName} {C C' : String} {zb : ByteArray} {zm : Nat} {zr : Option FieldType} {rm : Room} {i : Nat} {a : Addr} {a0 : Array Value} {Qz : Option Value → Heap → Prop} {St : List Value} (argsL rest : List Value) (X : Sd K T h cl sl) (cx : Cx K y bytes mx rt R) (hd : Dc bytes pc (.invokevirtual i) 3 pc') (E : Exa K.Z h a C)
    (w1 : (Cond.methodLink y.cls i z).before a0 K.Z = true) (w2 : (Cond.selects C' z' z').before a0 K.Z = true) (w3 : (Cond.instanceMethod z).before a0 K.Z = true) (w4 : (Cond.privateMethod z).before a0 K.Z = true) (w5 : (Cond.initialized z.cls).before a0 K.Z = true) (w6 : (Cond.code z zb zm zr).before a0 K.Z = true) (hzz : z'.cls = z.cls) (hm : z.cls ≠ "java/lang/invoke/MethodHandle" ∧ z.cls ≠ "java/lang/invoke/VarHandle")
    (con : Con K.l K.Z z zb zm zr rm (.ref a :: argsL).toArray h K.n0 Qz) (hpd : ∀ sig, parseMethodDescriptor z.desc = some sig → argsL.length = sig.parameters.length) (hSt : St = argsL.reverse ++ .ref a :: rest) (hsz : L.size = mx) (hf : rm.frames + 1 ≤ R.frames) (hl : (rest.map fun v => v.category).sum + (zm + 11) + rm.locals ≤ R.locals) (hc : cl + rm.cells ≤ R.cells) (hs : sl + rm.slots ≤ R.slots)
    (k : ∀ T' h' v, Sd K T' h' (cl + rm.cells) (sl + rm.slots) → Qz v h' → Run K Q T' (mkF K.m pc' L (v.toList ++ rest))) (hmono : ∀ v h', Qz v h' → h.size ≤ h'.size) : Run K Q T (mkF K.m pc L St) := by
  obtain ⟨locs, X0, N, hz, eT⟩ := X; obtain ⟨hx, hZ, hby, hml, hown, -, -, hR, -⟩ := cx; obtain ⟨dd, rfl⟩ := hd
  obtain ⟨cq, qa, qb⟩ := E.cell
  have u2 : (Cond.selects C' z' z').before K.args K.s = true := mvT hZ w2
  have u3 : (Cond.instanceMethod z).before K.args K.s = true := mvT hZ w3
  obtain ⟨c2, r2, m2, q1, q2, q3, q4, kP, hkP, hkPi⟩ := Cond.selects_spec u2
  have hc2 := findClass_of_methodNamed q3
  rw [hzz] at hc2
  have hpriv := Cond.privateMethod_at (mvP hZ w4 (args := K.args))
  have hsel := selects_self_of_private hc2 hkP hkPi hpriv u3 hm
  obtain ⟨v, _, ⟨T1, L1, k1, n1⟩, -, X1, ⟨Lc, ⟨hQ, hF⟩, l1, y1, z1⟩, st1⟩ := X0.privateBack hx (y := z) hown (mvT hZ w1) u3 hsel hpriv (mvT hZ w6) hm (backOf (W := (rest.map fun v => v.category).sum) (Q := fun v h L => Qz v h ∧ Fr K.n0 L) (con []) hZ w6 w5 (by rw [hR]; exact hf) (by rw [hR]; exact hl)) (g := mkF K.m pc L St) rfl (by rw [hml]; exact hsz) (Steps.refl _) (a := a) (by rw [eT]; exact qa) qb (argsL := argsL) (rest := rest) hpd hSt (by show 2 * 0 + _ ≤ _; omega) (hb hby dd) (fun _ _ => ⟨rfl, eT, by rw [hR]; exact hc, by rw [hR]; exact hs⟩)
  dsimp only [Pt.U, Pt.locs, Pt.cells, Pt.slots] at X1 l1 y1 z1 st1 hQ
  subst l1 y1 z1
  exact Run.st (fun t q => st1.trans q) (k T1 _ v ⟨_, X1, Fr.app N hF, Nat.le_trans hz (hmono _ _ hQ), rfl⟩ hQ)
theorem r_special {z : MethodName} {zb : ByteArray} {zm : Nat} {rm : Room} {i : Nat} {a : Addr} {a0 : Array Value} {Qz : Option Value → Heap → Prop} {St : List Value} (argsL rest : List Value) (X : Sd K T h cl sl) (cx : Cx K y bytes mx rt R) (hd : Dc bytes pc (.invokespecial i) 3 pc') (hzn : z.name = "<init>")
    (w1 : (Cond.methodLink y.cls i z).before a0 K.Z = true) (w2 : (Cond.instanceMethod z).before a0 K.Z = true) (w3 : (Cond.initialized z.cls).before a0 K.Z = true) (w4 : (Cond.code z zb zm none).before a0 K.Z = true) (hm : z.cls ≠ "java/lang/invoke/MethodHandle" ∧ z.cls ≠ "java/lang/invoke/VarHandle")
    (con : Con K.l K.Z z zb zm none rm (.ref a :: argsL).toArray h K.n0 Qz) (hpd : ∀ sig, parseMethodDescriptor z.desc = some sig → argsL.length = sig.parameters.length) (hSt : St = argsL.reverse ++ .ref a :: rest) (hsz : L.size = mx) (hf : rm.frames + 1 ≤ R.frames) (hl : (rest.map fun v => v.category).sum + (zm + 11) + rm.locals ≤ R.locals) (hc : cl + rm.cells ≤ R.cells) (hs : sl + rm.slots ≤ R.slots)
    (k : ∀ T' h' v, Sd K T' h' (cl + rm.cells) (sl + rm.slots) → Qz v h' → Run K Q T' (mkF K.m pc' L (v.toList ++ rest))) (hmono : ∀ v h', Qz v h' → h.size ≤ h'.size) : Run K Q T (mkF K.m pc L St) := by
  obtain ⟨locs, X0, N, hz, eT⟩ := X; obtain ⟨hx, hZ, hby, hml, hown, -, -, hR, -⟩ := cx; obtain ⟨dd, rfl⟩ := hd
  obtain ⟨v, _, ⟨T1, L1, k1, n1⟩, -, X1, ⟨Lc, ⟨hQ, hF⟩, l1, y1, z1⟩, st1⟩ := X0.specialBack hx (y := z) hzn hown (mvT hZ w1) (mvT hZ w2) (mvT hZ w4) hm (backOf (W := (rest.map fun v => v.category).sum) (Q := fun v h L => Qz v h ∧ Fr K.n0 L) (con []) hZ w4 w3 (by rw [hR]; exact hf) (by rw [hR]; exact hl)) (g := mkF K.m pc L St) rfl (by rw [hml]; exact hsz) (Steps.refl _) (a := a) (argsL := argsL) (rest := rest) hpd hSt (by show 2 * 0 + _ ≤ _; omega) (hb hby dd) (fun _ _ => ⟨rfl, eT, by rw [hR]; exact hc, by rw [hR]; exact hs⟩)
  dsimp only [Pt.U, Pt.locs, Pt.cells, Pt.slots] at X1 l1 y1 z1 st1 hQ
  subst l1 y1 z1
  exact Run.st (fun t q => st1.trans q) (k T1 _ v ⟨_, X1, Fr.app N hF, Nat.le_trans hz (hmono _ _ hQ), rfl⟩ hQ)
end Calls
end Jvm.Own
namespace Jvm.Pilot.@@N@@
open Jvm Jvm.ClassFile Sem Op Lib Jvm.Free Jvm.Stand Jvm.LawKit Jvm.RoadKit Bundle Jvm.Own Jvm.Pilot.@@N@@.Jvm.D
theorem pd_0 : parseMethodDescriptor "([JJ)V" = some ⟨[.array .long, .long], none⟩ := by decide +kernel
theorem pd_1 : parseMethodDescriptor "(I)[J" = some ⟨[.int], some (.array .long)⟩ := by decide +kernel
theorem pd_2 : parseMethodDescriptor "(I)I" = some ⟨[.int], some (.int)⟩ := by decide +kernel
theorem pd_3 : parseMethodDescriptor "(J)I" = some ⟨[.long], some (.int)⟩ := by decide +kernel
theorem pd_4 : parseMethodDescriptor "([JJ)I" = some ⟨[.array .long, .long], some (.int)⟩ := by decide +kernel
theorem pd_5 : parseMethodDescriptor "()V" = some ⟨[], none⟩ := by decide +kernel
theorem pd_6 : parseMethodDescriptor "()[J" = some ⟨[], some (.array .long)⟩ := by decide +kernel
theorem pd_7 : parseMethodDescriptor "(JJ)V" = some ⟨[.long, .long], none⟩ := by decide +kernel
theorem pd_8 : parseMethodDescriptor "([JJ)Z" = some ⟨[.array .long, .long], some (.boolean)⟩ := by decide +kernel
def LC (Z : State) (n0 : Nat) (h : Heap) (o ak ac : Addr) (ks cs : List Int64) (sz : Int32) : Prop :=
  Exa Z h o "com/example/dipper/dipper/model/LongCounts" ∧ Fld Z h o "com/example/dipper/dipper/model/LongCounts" "keys" "[J" (.ref ak) ∧ Fld Z h o "com/example/dipper/dipper/model/LongCounts" "counts" "[J" (.ref ac) ∧ Fld Z h o "com/example/dipper/dipper/model/LongCounts" "size" "I" (.int sz) ∧ AJ Z h ak ks ∧ AJ Z h ac cs ∧ o ≠ ak ∧ o ≠ ac ∧ ak ≠ ac ∧ n0 ≤ o ∧ n0 ≤ ak ∧ n0 ≤ ac
def own_g (ks : List Int64) (i : Nat) : Int64 := ks[i]?.getD 0
def own_pr : Nat → List Int64 → Int64 → Nat → Nat
  | 0, _, _, i => i
  | f + 1, ks, k, i => if own_g ks i = -1 ∨ own_g ks i = k then i else own_pr f ks k ((i + 1) % 16)
theorem own_gd {xs : List Int64} {n : Nat} (h : n < xs.length) : xs[n]? = some (own_g xs n) := by
  unfold own_g; rw [List.getElem?_eq_getElem h]; rfl
theorem own_i16 : ∀ i : Fin 16, (Int32.ofNat i.val + 1) &&& 15 = Int32.ofNat ((i.val + 1) % 16) := by decide +kernel
def own_hash (k : Int64) : Nat := (k * -7046029254386353131).toBitVec.toNat / 2 ^ 60
theorem own_hl (k : Int64) : own_hash k < 16 := by
  unfold own_hash
  have := (k * -7046029254386353131).toBitVec.isLt
  omega
theorem own_us (x : Int64) (y : Int32) (n : Nat) (h : (y.toInt64.toUInt64 &&& Int64.toUInt64 63).toBitVec.toNat % 64 = n) : (XT.ushrL x y).toBitVec = x.toBitVec >>> n := by
  subst h
  show (x.toUInt64 >>> (y.toInt64.toUInt64 &&& Int64.toUInt64 63)).toBitVec = _
  rw [UInt64.toBitVec_shiftRight]
  simp [BitVec.ushiftRight_eq']
theorem own_hk (k : Int64) : Int64.toInt32 (XT.ushrL (k * -7046029254386353131) 60) = Int32.ofNat (own_hash k) := by
  have e : XT.ushrL (k * -7046029254386353131) 60 = Int64.ofNat (own_hash k) := by
    apply Int64.toBitVec_inj.mp
    rw [own_us _ 60 60 (by decide)]
    apply BitVec.eq_of_toNat_eq
    rw [BitVec.toNat_ushiftRight, Nat.shiftRight_eq_div_pow]
    show _ = (BitVec.ofNat 64 (own_hash k)).toNat
    rw [BitVec.toNat_ofNat, Nat.mod_eq_of_lt (by have := own_hl k; omega)]
    rfl
  rw [e]
  have : ∀ n : Fin 16, Int64.toInt32 (Int64.ofNat n.val) = Int32.ofNat n.val := by decide +kernel
  exact this ⟨own_hash k, own_hl k⟩
theorem own_prl : ∀ (f : Nat) (ks : List Int64) (k : Int64) (i : Nat), i < 16 → own_pr f ks k i < 16
  | 0, _, _, _, h => h
  | f + 1, ks, k, i, h => by
    unfold own_pr
    split
    · exact h
    · exact own_prl f ks k _ (Nat.mod_lt _ (by decide))
theorem own_gs {ks : List Int64} {s : Nat} {k : Int64} (h : s < ks.length) : own_g (ks.set s k) s = k := by
  unfold own_g; rw [List.getElem?_set_self h]; rfl
theorem own_gn {ks : List Int64} {s i : Nat} {k : Int64} (h : ¬ s = i) : own_g (ks.set s k) i = own_g ks i := by
  unfold own_g; rw [List.getElem?_set_ne h]
/-- a key that is found is found behind a store into a free place -/
theorem own_keep {s : Nat} {k k' : Int64} (hk' : k' ≠ -1) : ∀ (f : Nat) (ks : List Int64) (i : Nat), own_g ks s = -1 → own_g ks (own_pr f ks k' i) = k' → own_pr f (ks.set s k) k' i = own_pr f ks k' i
  | 0, _, _, _, _ => rfl
  | f + 1, ks, i, hs, h => by
    unfold own_pr at h ⊢
    by_cases e : own_g ks i = -1
    · rw [if_pos (Or.inl e)] at h
      exact absurd (h.symm.trans e) hk'
    · have hne : ¬ s = i := fun q => e (q ▸ hs)
      rw [own_gn hne]
      by_cases e2 : own_g ks i = k'
      · rw [if_pos (Or.inr e2), if_pos (Or.inr e2)]
      · rw [if_neg (by simp [e, e2])] at h
        rw [if_neg (by simp [e, e2]), if_neg (by simp [e, e2])]
        exact own_keep hk' f ks _ hs h
theorem own_newk {s : Nat} {k : Int64} (hk : k ≠ -1) : ∀ (f : Nat) (ks : List Int64) (i : Nat), s < ks.length → own_pr f ks k i = s → own_g ks s = -1 → own_pr f (ks.set s k) k i = s
  | 0, _, _, _, h, _ => h
  | f + 1, ks, i, hl, h, hs => by
    unfold own_pr at h ⊢
    by_cases e : own_g ks i = -1
    · rw [if_pos (Or.inl e)] at h
      subst h
      rw [if_pos (Or.inr (own_gs hl))]
    · have hne : ¬ s = i := fun q => e (q ▸ hs)
      rw [own_gn hne]
      by_cases e2 : own_g ks i = k
      · rw [if_pos (Or.inr e2)] at h
        exact absurd h.symm hne
      · rw [if_neg (by simp [e, e2])] at h
        rw [if_neg (by simp [e, e2])]
        exact own_newk hk f ks _ hl h hs
theorem own_not {k : Int64} : ∀ (f : Nat) (ks : List Int64) (i : Nat), ¬ (own_g ks (own_pr f ks k i) = -1 ∨ own_g ks (own_pr f ks k i) = k) → ∀ t, t < f → ¬ own_g ks ((i + t) % 16) = -1 ∨ ¬ i < 16
  | 0, _, _, _, t, ht => absurd ht (by omega)
  | f + 1, ks, i, h, t, ht => by
    unfold own_pr at h
    by_cases e : own_g ks i = -1 ∨ own_g ks i = k
    · rw [if_pos e] at h; exact absurd e h
    · rw [if_neg e] at h
      by_cases hi : i < 16
      · left
        cases t with
        | zero => rw [Nat.add_zero, Nat.mod_eq_of_lt hi]; exact fun q => e (Or.inl q)
        | succ t =>
          have := own_not f ks ((i + 1) % 16) h t (by omega)
          rcases this with q | q
          · rw [show (i + (t + 1)) % 16 = ((i + 1) % 16 + t) % 16 by omega]; exact q
          · exact absurd (Nat.mod_lt _ (by decide)) q
      · exact Or.inr hi
theorem own_stop {ks : List Int64} {k : Int64} {i j : Nat} (hi : i < 16) (hj : j < 16) (hf : own_g ks j = -1) : own_g ks (own_pr 16 ks k i) = -1 ∨ own_g ks (own_pr 16 ks k i) = k := by
  by_cases h : own_g ks (own_pr 16 ks k i) = -1 ∨ own_g ks (own_pr 16 ks k i) = k
  · exact h
  · have := own_not 16 ks i h ((j + 16 - i) % 16) (Nat.mod_lt _ (by decide))
    rcases this with q | q
    · rw [show (i + (j + 16 - i) % 16) % 16 = j by omega] at q
      exact absurd hf q
    · exact absurd hi q
def own_f (ks : List Int64) : List Int64 := ks.filter (fun x => decide (x ≠ -1))
/-- the table holds just the keys of l -/
def own_inv (ks l : List Int64) : Prop := ks.length = 16 ∧ (∀ k, k ∈ ks → k = -1 ∨ k ∈ l) ∧ (∀ k, k ∈ l → k ≠ -1 ∧ k ∈ ks ∧ own_g ks (own_pr 16 ks k (own_hash k)) = k) ∧ (own_f ks).length = l.length
theorem own_mem {ks : List Int64} {i : Nat} (h : i < ks.length) : own_g ks i ∈ ks := List.mem_of_getElem? (own_gd h)
theorem own_free {ks l : List Int64} (h : own_inv ks l) (hl : l.length ≤ 3) : ∃ j, j < 16 ∧ own_g ks j = -1 := by
  obtain ⟨h1, -, -, h4⟩ := h
  by_cases q : ∃ j, j < 16 ∧ own_g ks j = -1
  · exact q
  · have : own_f ks = ks := by
      unfold own_f
      rw [List.filter_eq_self]
      intro a ha
      obtain ⟨n, hn⟩ := List.getElem?_of_mem ha
      have hlt := (List.getElem?_eq_some_iff.mp hn).1
      refine decide_eq_true fun e => q ⟨n, by omega, ?_⟩
      unfold own_g; rw [hn]; exact e
    rw [this] at h4; omega
theorem own_fset : ∀ (ks : List Int64) (s : Nat) (k : Int64), k ≠ -1 → s < ks.length → own_g ks s = -1 → (own_f (ks.set s k)).length = (own_f ks).length + 1
  | [], _, _, _, h, _ => absurd h (by simp)
  | a :: r, 0, k, hk, _, hs => by
    have ha : a = -1 := hs
    subst ha
    unfold own_f
    rw [List.set_cons_zero, List.filter_cons_of_pos (by simpa using hk), List.filter_cons_of_neg (by simp)]
    rfl
  | a :: r, s + 1, k, hk, h, hs => by
    have ih := own_fset r s k hk (by simpa using h) hs
    unfold own_f at ih ⊢
    rw [List.set_cons_succ, List.filter_cons, List.filter_cons]
    split
    · simp only [List.length_cons]; omega
    · exact ih
theorem own_step {ks l : List Int64} {k : Int64} (h : own_inv ks l) (hl : l.length ≤ 2) (hk : k ≠ -1) :
    (own_g ks (own_pr 16 ks k (own_hash k)) = -1 → k ∉ l ∧ own_inv (ks.set (own_pr 16 ks k (own_hash k)) k) (l ++ [k])) ∧ (own_g ks (own_pr 16 ks k (own_hash k)) = k → k ∈ l) := by
  obtain ⟨h1, h2, h3, h4⟩ := h
  have hp : own_pr 16 ks k (own_hash k) < ks.length := by rw [h1]; exact own_prl _ _ _ _ (own_hl k)
  constructor
  · intro e
    have hni : k ∉ l := fun q => hk ((h3 k q).2.2.symm.trans e)
    refine ⟨hni, by rw [List.length_set]; exact h1, ?_, ?_, ?_⟩
    · intro x hx
      rcases List.mem_or_eq_of_mem_set hx with q | q
      · rcases h2 x q with r | r
        · exact Or.inl r
        · exact Or.inr (List.mem_append_left _ r)
      · exact Or.inr (by rw [q]; simp)
    · intro x hx
      rcases List.mem_append.mp hx with q | q
      · obtain ⟨a1, a2, a3⟩ := h3 x q
        have e3 := own_keep (s := own_pr 16 ks k (own_hash k)) (k := k) a1 16 ks (own_hash x) e a3
        have hne : ¬ own_pr 16 ks k (own_hash k) = own_pr 16 ks x (own_hash x) := fun r => a1 (a3.symm.trans (r ▸ e))
        have e4 : own_g (ks.set (own_pr 16 ks k (own_hash k)) k) (own_pr 16 ks x (own_hash x)) = x := by rw [own_gn hne]; exact a3
        refine ⟨a1, ?_, by rw [e3]; exact e4⟩
        have := own_mem (ks := ks.set (own_pr 16 ks k (own_hash k)) k) (i := own_pr 16 ks x (own_hash x)) (by rw [List.length_set, h1]; exact own_prl _ _ _ _ (own_hl x))
        rw [e4] at this; exact this
      · have q' : x = k := by simpa using q
        subst q'
        have e3 := own_newk hk 16 ks (own_hash x) hp rfl e
        refine ⟨hk, ?_, by rw [e3]; exact own_gs hp⟩
        have := own_mem (ks := ks.set (own_pr 16 ks x (own_hash x)) x) (i := own_pr 16 ks x (own_hash x)) (by rw [List.length_set]; exact hp)
        rw [own_gs hp] at this; exact this
    · rw [own_fset ks _ k hk hp e, h4, List.length_append]; rfl
  · intro e
    rcases h2 k (by have := own_mem hp; rw [e] at this; exact this) with q | q
    · exact absurd q hk
    · exact q
theorem own_inf {ks l : List Int64} (h : own_inv ks l) (k : Int64) (hk : k ∈ l) : k ∈ own_f ks := by
  unfold own_f
  rw [List.mem_filter]
  exact ⟨(h.2.2.1 k hk).2.1, decide_eq_true (h.2.2.1 k hk).1⟩
theorem own_inv0 : own_inv (List.replicate 16 (-1)) [] := by
  refine ⟨by simp, fun k hk => Or.inl (List.eq_of_mem_replicate hk), fun k hk => absurd hk List.not_mem_nil, ?_⟩
  unfold own_f; decide
theorem own_max (x : Int64) : x &&& 9223372036854775807 ≠ -1 := by
  intro e
  have := congrArg (fun z => z.toBitVec.getLsbD 63) e
  simp only [Int64.toBitVec_and, BitVec.getLsbD_and] at this
  have h1 : (9223372036854775807 : Int64).toBitVec.getLsbD 63 = false := by decide
  have h2 : (-1 : Int64).toBitVec.getLsbD 63 = true := by decide
  rw [h1, h2] at this
  simp at this
theorem J65m101_0 : Dc jdk_65_method_101_code 0 (.iconst 0) 1 1 := ⟨(by decide +kernel), rfl⟩
theorem J65m101_1 : Dc jdk_65_method_101_code 1 (.istore_n 3) 1 2 := ⟨(by decide +kernel), rfl⟩
theorem J65m101_2 : Dc jdk_65_method_101_code 2 (.aload_n 0) 1 3 := ⟨(by decide +kernel), rfl⟩
theorem J65m101_3 : Dc jdk_65_method_101_code 3 (.arraylength) 1 4 := ⟨(by decide +kernel), rfl⟩
theorem J65m101_4 : Dc jdk_65_method_101_code 4 (.istore 4) 2 6 := ⟨(by decide +kernel), rfl⟩
theorem J65m101_6 : Dc jdk_65_method_101_code 6 (.iload_n 3) 1 7 := ⟨(by decide +kernel), rfl⟩
theorem J65m101_7 : Dc jdk_65_method_101_code 7 (.iload 4) 2 9 := ⟨(by decide +kernel), rfl⟩
theorem J65m101_9 : Db jdk_65_method_101_code 9 (.if_icmp .ge 13) (13) 12 22 := ⟨(by decide +kernel), rfl, by decide, by decide⟩
theorem J65m101_12 : Dc jdk_65_method_101_code 12 (.aload_n 0) 1 13 := ⟨(by decide +kernel), rfl⟩
theorem J65m101_13 : Dc jdk_65_method_101_code 13 (.iload_n 3) 1 14 := ⟨(by decide +kernel), rfl⟩
theorem J65m101_14 : Dc jdk_65_method_101_code 14 (.lload_n 1) 1 15 := ⟨(by decide +kernel), rfl⟩
theorem J65m101_15 : Dc jdk_65_method_101_code 15 (.lastore) 1 16 := ⟨(by decide +kernel), rfl⟩
theorem J65m101_16 : Dc jdk_65_method_101_code 16 (.iinc 3 1) 3 19 := ⟨(by decide +kernel), rfl⟩
theorem J65m101_19 : Db jdk_65_method_101_code 19 (.goto (-13)) (-13) 22 6 := ⟨(by decide +kernel), rfl, by decide, by decide⟩
theorem J65m101_22 : Dc jdk_65_method_101_code 22 (.return_) 1 23 := ⟨(by decide +kernel), rfl⟩
theorem ef_J65m101 (m : MethodId) (r : Addr) (v : Int64) : entryFrame m #[(.ref r), (.long v)] 5 = mkF m 0 #[.val (.ref r), .val (.long v), .second, .unset, .unset] [] := by first | (simp [entryFrame, mkF, argsToLocals, Value.category]; done) | rfl
set_option maxRecDepth 65536 in
set_option maxHeartbeats 40000000 in
theorem con_J65m101 (l : Launch) (Z : State) (a0 : Array Value) (hw : Tb tables_1 a0 Z) (r : Addr) (v : Int64) (h0 : Heap) (n0 : Nat) (Z0 : n0 ≤ h0.size) (x0 x1 x2 x3 x4 x5 x6 x7 x8 x9 x10 x11 x12 x13 x14 x15 : Int64) (A_r : AJ Z h0 r [x0, x1, x2, x3, x4, x5, x6, x7, x8, x9, x10, x11, x12, x13, x14, x15]) (g_r : n0 ≤ r) :
    Con l Z (⟨"java/util/Arrays", "fill", "([JJ)V"⟩ : MethodName) jdk_65_method_101_code 5 (none) ({ frames := 0, cells := 0, slots := 0, locals := 0 } : Room) #[(.ref r), (.long v)] h0 n0 (fun u h => h0.size ≤ h.size ∧ u = none ∧ AJ Z h r (List.replicate 16 v) ∧ Keep h0 h [r]) := by
  refine Con.of (plainFor_of_name (by decide +kernel)) Z0 ?_
  intro K hl hZ hn cx T0 X0
  subst hl hZ hn
  refine Run.cast (ef_J65m101 K.m r v) ?_
  have Kp : Keep h0 h0 [r] := Keep.refl _ _
  refine r_iconst (0) X0 cx J65m101_0 rfl ?_
  refine r_istoreN (fun zz => #[.val (.ref r), .val (.long v), .second, .val (.int zz), .unset]) X0 cx J65m101_1 (fun _ => rfl) (fun i1 e_i1 => ?_)
  subst e_i1
  refine r_aloadN X0 cx J65m101_2 rfl ?_
  refine r_alenJ X0 cx J65m101_3 A_r (16) rfl ?_
  refine r_istore (fun zz => #[.val (.ref r), .val (.long v), .second, .val (.int (0 : Int32)), .val (.int zz)]) X0 cx J65m101_4 (fun _ => rfl) (fun i2 e_i2 => ?_)
  subst e_i2
  refine r_iloadN X0 cx J65m101_6 rfl ?_
  refine r_iload X0 cx J65m101_7 rfl ?_
  refine r_icmpge X0 cx J65m101_9 (fun c => absurd c (by decide)) (fun _ => ?_)
  refine r_aloadN X0 cx J65m101_12 rfl ?_
  refine r_iloadN X0 cx J65m101_13 rfl ?_
  refine r_lloadN X0 cx J65m101_14 rfl ?_
  refine r_lastore X0 cx J65m101_15 A_r (0) rfl (ltb rfl) g_r (fun T3 h3 X3 W3 N3 => ?_)
  replace Kp := Kp.wr W3 (Or.inl (by simp))
  have A_r : AJ K.Z h3 r [v, x1, x2, x3, x4, x5, x6, x7, x8, x9, x10, x11, x12, x13, x14, x15] := N3
  refine r_iinc (1 : Int32) (fun zz => #[.val (.ref r), .val (.long v), .second, .val (.int zz), .val (.int (16 : Int32))]) X3 cx J65m101_16 rfl rfl (fun _ => rfl) (fun i4 e_i4 => ?_)
  obtain rfl : i4 = (1 : Int32) := e_i4
  refine r_goto X3 cx J65m101_19 ?_
  refine r_iloadN X3 cx J65m101_6 rfl ?_
  refine r_iload X3 cx J65m101_7 rfl ?_
  refine r_icmpge X3 cx J65m101_9 (fun c => absurd c (by decide)) (fun _ => ?_)
  refine r_aloadN X3 cx J65m101_12 rfl ?_
  refine r_iloadN X3 cx J65m101_13 rfl ?_
  refine r_lloadN X3 cx J65m101_14 rfl ?_
  refine r_lastore X3 cx J65m101_15 A_r (1) rfl (ltb rfl) g_r (fun T5 h5 X5 W5 N5 => ?_)
  replace Kp := Kp.wr W5 (Or.inl (by simp))
  have A_r : AJ K.Z h5 r [v, v, x2, x3, x4, x5, x6, x7, x8, x9, x10, x11, x12, x13, x14, x15] := N5
  refine r_iinc (1 : Int32) (fun zz => #[.val (.ref r), .val (.long v), .second, .val (.int zz), .val (.int (16 : Int32))]) X5 cx J65m101_16 rfl rfl (fun _ => rfl) (fun i6 e_i6 => ?_)
  obtain rfl : i6 = (2 : Int32) := e_i6
  refine r_goto X5 cx J65m101_19 ?_
  refine r_iloadN X5 cx J65m101_6 rfl ?_
  refine r_iload X5 cx J65m101_7 rfl ?_
  refine r_icmpge X5 cx J65m101_9 (fun c => absurd c (by decide)) (fun _ => ?_)
  refine r_aloadN X5 cx J65m101_12 rfl ?_
  refine r_iloadN X5 cx J65m101_13 rfl ?_
  refine r_lloadN X5 cx J65m101_14 rfl ?_
  refine r_lastore X5 cx J65m101_15 A_r (2) rfl (ltb rfl) g_r (fun T7 h7 X7 W7 N7 => ?_)
  replace Kp := Kp.wr W7 (Or.inl (by simp))
  have A_r : AJ K.Z h7 r [v, v, v, x3, x4, x5, x6, x7, x8, x9, x10, x11, x12, x13, x14, x15] := N7
  refine r_iinc (1 : Int32) (fun zz => #[.val (.ref r), .val (.long v), .second, .val (.int zz), .val (.int (16 : Int32))]) X7 cx J65m101_16 rfl rfl (fun _ => rfl) (fun i8 e_i8 => ?_)
  obtain rfl : i8 = (3 : Int32) := e_i8
  refine r_goto X7 cx J65m101_19 ?_
  refine r_iloadN X7 cx J65m101_6 rfl ?_
  refine r_iload X7 cx J65m101_7 rfl ?_
  refine r_icmpge X7 cx J65m101_9 (fun c => absurd c (by decide)) (fun _ => ?_)
  refine r_aloadN X7 cx J65m101_12 rfl ?_
  refine r_iloadN X7 cx J65m101_13 rfl ?_
  refine r_lloadN X7 cx J65m101_14 rfl ?_
  refine r_lastore X7 cx J65m101_15 A_r (3) rfl (ltb rfl) g_r (fun T9 h9 X9 W9 N9 => ?_)
  replace Kp := Kp.wr W9 (Or.inl (by simp))
  have A_r : AJ K.Z h9 r [v, v, v, v, x4, x5, x6, x7, x8, x9, x10, x11, x12, x13, x14, x15] := N9
  refine r_iinc (1 : Int32) (fun zz => #[.val (.ref r), .val (.long v), .second, .val (.int zz), .val (.int (16 : Int32))]) X9 cx J65m101_16 rfl rfl (fun _ => rfl) (fun i10 e_i10 => ?_)
  obtain rfl : i10 = (4 : Int32) := e_i10
  refine r_goto X9 cx J65m101_19 ?_
  refine r_iloadN X9 cx J65m101_6 rfl ?_
  refine r_iload X9 cx J65m101_7 rfl ?_
  refine r_icmpge X9 cx J65m101_9 (fun c => absurd c (by decide)) (fun _ => ?_)
  refine r_aloadN X9 cx J65m101_12 rfl ?_
  refine r_iloadN X9 cx J65m101_13 rfl ?_
  refine r_lloadN X9 cx J65m101_14 rfl ?_
  refine r_lastore X9 cx J65m101_15 A_r (4) rfl (ltb rfl) g_r (fun T11 h11 X11 W11 N11 => ?_)
  replace Kp := Kp.wr W11 (Or.inl (by simp))
  have A_r : AJ K.Z h11 r [v, v, v, v, v, x5, x6, x7, x8, x9, x10, x11, x12, x13, x14, x15] := N11
  refine r_iinc (1 : Int32) (fun zz => #[.val (.ref r), .val (.long v), .second, .val (.int zz), .val (.int (16 : Int32))]) X11 cx J65m101_16 rfl rfl (fun _ => rfl) (fun i12 e_i12 => ?_)
  obtain rfl : i12 = (5 : Int32) := e_i12
  refine r_goto X11 cx J65m101_19 ?_
  refine r_iloadN X11 cx J65m101_6 rfl ?_
  refine r_iload X11 cx J65m101_7 rfl ?_
  refine r_icmpge X11 cx J65m101_9 (fun c => absurd c (by decide)) (fun _ => ?_)
  refine r_aloadN X11 cx J65m101_12 rfl ?_
  refine r_iloadN X11 cx J65m101_13 rfl ?_
  refine r_lloadN X11 cx J65m101_14 rfl ?_
  refine r_lastore X11 cx J65m101_15 A_r (5) rfl (ltb rfl) g_r (fun T13 h13 X13 W13 N13 => ?_)
  replace Kp := Kp.wr W13 (Or.inl (by simp))
  have A_r : AJ K.Z h13 r [v, v, v, v, v, v, x6, x7, x8, x9, x10, x11, x12, x13, x14, x15] := N13
  refine r_iinc (1 : Int32) (fun zz => #[.val (.ref r), .val (.long v), .second, .val (.int zz), .val (.int (16 : Int32))]) X13 cx J65m101_16 rfl rfl (fun _ => rfl) (fun i14 e_i14 => ?_)
  obtain rfl : i14 = (6 : Int32) := e_i14
  refine r_goto X13 cx J65m101_19 ?_
  refine r_iloadN X13 cx J65m101_6 rfl ?_
  refine r_iload X13 cx J65m101_7 rfl ?_
  refine r_icmpge X13 cx J65m101_9 (fun c => absurd c (by decide)) (fun _ => ?_)
  refine r_aloadN X13 cx J65m101_12 rfl ?_
  refine r_iloadN X13 cx J65m101_13 rfl ?_
  refine r_lloadN X13 cx J65m101_14 rfl ?_
  refine r_lastore X13 cx J65m101_15 A_r (6) rfl (ltb rfl) g_r (fun T15 h15 X15 W15 N15 => ?_)
  replace Kp := Kp.wr W15 (Or.inl (by simp))
  have A_r : AJ K.Z h15 r [v, v, v, v, v, v, v, x7, x8, x9, x10, x11, x12, x13, x14, x15] := N15
  refine r_iinc (1 : Int32) (fun zz => #[.val (.ref r), .val (.long v), .second, .val (.int zz), .val (.int (16 : Int32))]) X15 cx J65m101_16 rfl rfl (fun _ => rfl) (fun i16 e_i16 => ?_)
  obtain rfl : i16 = (7 : Int32) := e_i16
  refine r_goto X15 cx J65m101_19 ?_
  refine r_iloadN X15 cx J65m101_6 rfl ?_
  refine r_iload X15 cx J65m101_7 rfl ?_
  refine r_icmpge X15 cx J65m101_9 (fun c => absurd c (by decide)) (fun _ => ?_)
  refine r_aloadN X15 cx J65m101_12 rfl ?_
  refine r_iloadN X15 cx J65m101_13 rfl ?_
  refine r_lloadN X15 cx J65m101_14 rfl ?_
  refine r_lastore X15 cx J65m101_15 A_r (7) rfl (ltb rfl) g_r (fun T17 h17 X17 W17 N17 => ?_)
  replace Kp := Kp.wr W17 (Or.inl (by simp))
  have A_r : AJ K.Z h17 r [v, v, v, v, v, v, v, v, x8, x9, x10, x11, x12, x13, x14, x15] := N17
  refine r_iinc (1 : Int32) (fun zz => #[.val (.ref r), .val (.long v), .second, .val (.int zz), .val (.int (16 : Int32))]) X17 cx J65m101_16 rfl rfl (fun _ => rfl) (fun i18 e_i18 => ?_)
  obtain rfl : i18 = (8 : Int32) := e_i18
  refine r_goto X17 cx J65m101_19 ?_
  refine r_iloadN X17 cx J65m101_6 rfl ?_
  refine r_iload X17 cx J65m101_7 rfl ?_
  refine r_icmpge X17 cx J65m101_9 (fun c => absurd c (by decide)) (fun _ => ?_)
  refine r_aloadN X17 cx J65m101_12 rfl ?_
  refine r_iloadN X17 cx J65m101_13 rfl ?_
  refine r_lloadN X17 cx J65m101_14 rfl ?_
  refine r_lastore X17 cx J65m101_15 A_r (8) rfl (ltb rfl) g_r (fun T19 h19 X19 W19 N19 => ?_)
  replace Kp := Kp.wr W19 (Or.inl (by simp))
  have A_r : AJ K.Z h19 r [v, v, v, v, v, v, v, v, v, x9, x10, x11, x12, x13, x14, x15] := N19
  refine r_iinc (1 : Int32) (fun zz => #[.val (.ref r), .val (.long v), .second, .val (.int zz), .val (.int (16 : Int32))]) X19 cx J65m101_16 rfl rfl (fun _ => rfl) (fun i20 e_i20 => ?_)
  obtain rfl : i20 = (9 : Int32) := e_i20
  refine r_goto X19 cx J65m101_19 ?_
  refine r_iloadN X19 cx J65m101_6 rfl ?_
  refine r_iload X19 cx J65m101_7 rfl ?_
  refine r_icmpge X19 cx J65m101_9 (fun c => absurd c (by decide)) (fun _ => ?_)
  refine r_aloadN X19 cx J65m101_12 rfl ?_
  refine r_iloadN X19 cx J65m101_13 rfl ?_
  refine r_lloadN X19 cx J65m101_14 rfl ?_
  refine r_lastore X19 cx J65m101_15 A_r (9) rfl (ltb rfl) g_r (fun T21 h21 X21 W21 N21 => ?_)
  replace Kp := Kp.wr W21 (Or.inl (by simp))
  have A_r : AJ K.Z h21 r [v, v, v, v, v, v, v, v, v, v, x10, x11, x12, x13, x14, x15] := N21
  refine r_iinc (1 : Int32) (fun zz => #[.val (.ref r), .val (.long v), .second, .val (.int zz), .val (.int (16 : Int32))]) X21 cx J65m101_16 rfl rfl (fun _ => rfl) (fun i22 e_i22 => ?_)
  obtain rfl : i22 = (10 : Int32) := e_i22
  refine r_goto X21 cx J65m101_19 ?_
  refine r_iloadN X21 cx J65m101_6 rfl ?_
  refine r_iload X21 cx J65m101_7 rfl ?_
  refine r_icmpge X21 cx J65m101_9 (fun c => absurd c (by decide)) (fun _ => ?_)
  refine r_aloadN X21 cx J65m101_12 rfl ?_
  refine r_iloadN X21 cx J65m101_13 rfl ?_
  refine r_lloadN X21 cx J65m101_14 rfl ?_
  refine r_lastore X21 cx J65m101_15 A_r (10) rfl (ltb rfl) g_r (fun T23 h23 X23 W23 N23 => ?_)
  replace Kp := Kp.wr W23 (Or.inl (by simp))
  have A_r : AJ K.Z h23 r [v, v, v, v, v, v, v, v, v, v, v, x11, x12, x13, x14, x15] := N23
  refine r_iinc (1 : Int32) (fun zz => #[.val (.ref r), .val (.long v), .second, .val (.int zz), .val (.int (16 : Int32))]) X23 cx J65m101_16 rfl rfl (fun _ => rfl) (fun i24 e_i24 => ?_)
  obtain rfl : i24 = (11 : Int32) := e_i24
  refine r_goto X23 cx J65m101_19 ?_
  refine r_iloadN X23 cx J65m101_6 rfl ?_
  refine r_iload X23 cx J65m101_7 rfl ?_
  refine r_icmpge X23 cx J65m101_9 (fun c => absurd c (by decide)) (fun _ => ?_)
  refine r_aloadN X23 cx J65m101_12 rfl ?_
  refine r_iloadN X23 cx J65m101_13 rfl ?_
  refine r_lloadN X23 cx J65m101_14 rfl ?_
  refine r_lastore X23 cx J65m101_15 A_r (11) rfl (ltb rfl) g_r (fun T25 h25 X25 W25 N25 => ?_)
  replace Kp := Kp.wr W25 (Or.inl (by simp))
  have A_r : AJ K.Z h25 r [v, v, v, v, v, v, v, v, v, v, v, v, x12, x13, x14, x15] := N25
  refine r_iinc (1 : Int32) (fun zz => #[.val (.ref r), .val (.long v), .second, .val (.int zz), .val (.int (16 : Int32))]) X25 cx J65m101_16 rfl rfl (fun _ => rfl) (fun i26 e_i26 => ?_)
  obtain rfl : i26 = (12 : Int32) := e_i26
  refine r_goto X25 cx J65m101_19 ?_
  refine r_iloadN X25 cx J65m101_6 rfl ?_
  refine r_iload X25 cx J65m101_7 rfl ?_
  refine r_icmpge X25 cx J65m101_9 (fun c => absurd c (by decide)) (fun _ => ?_)
  refine r_aloadN X25 cx J65m101_12 rfl ?_
  refine r_iloadN X25 cx J65m101_13 rfl ?_
  refine r_lloadN X25 cx J65m101_14 rfl ?_
  refine r_lastore X25 cx J65m101_15 A_r (12) rfl (ltb rfl) g_r (fun T27 h27 X27 W27 N27 => ?_)
  replace Kp := Kp.wr W27 (Or.inl (by simp))
  have A_r : AJ K.Z h27 r [v, v, v, v, v, v, v, v, v, v, v, v, v, x13, x14, x15] := N27
  refine r_iinc (1 : Int32) (fun zz => #[.val (.ref r), .val (.long v), .second, .val (.int zz), .val (.int (16 : Int32))]) X27 cx J65m101_16 rfl rfl (fun _ => rfl) (fun i28 e_i28 => ?_)
  obtain rfl : i28 = (13 : Int32) := e_i28
  refine r_goto X27 cx J65m101_19 ?_
  refine r_iloadN X27 cx J65m101_6 rfl ?_
  refine r_iload X27 cx J65m101_7 rfl ?_
  refine r_icmpge X27 cx J65m101_9 (fun c => absurd c (by decide)) (fun _ => ?_)
  refine r_aloadN X27 cx J65m101_12 rfl ?_
  refine r_iloadN X27 cx J65m101_13 rfl ?_
  refine r_lloadN X27 cx J65m101_14 rfl ?_
  refine r_lastore X27 cx J65m101_15 A_r (13) rfl (ltb rfl) g_r (fun T29 h29 X29 W29 N29 => ?_)
  replace Kp := Kp.wr W29 (Or.inl (by simp))
  have A_r : AJ K.Z h29 r [v, v, v, v, v, v, v, v, v, v, v, v, v, v, x14, x15] := N29
  refine r_iinc (1 : Int32) (fun zz => #[.val (.ref r), .val (.long v), .second, .val (.int zz), .val (.int (16 : Int32))]) X29 cx J65m101_16 rfl rfl (fun _ => rfl) (fun i30 e_i30 => ?_)
  obtain rfl : i30 = (14 : Int32) := e_i30
  refine r_goto X29 cx J65m101_19 ?_
  refine r_iloadN X29 cx J65m101_6 rfl ?_
  refine r_iload X29 cx J65m101_7 rfl ?_
  refine r_icmpge X29 cx J65m101_9 (fun c => absurd c (by decide)) (fun _ => ?_)
  refine r_aloadN X29 cx J65m101_12 rfl ?_
  refine r_iloadN X29 cx J65m101_13 rfl ?_
  refine r_lloadN X29 cx J65m101_14 rfl ?_
  refine r_lastore X29 cx J65m101_15 A_r (14) rfl (ltb rfl) g_r (fun T31 h31 X31 W31 N31 => ?_)
  replace Kp := Kp.wr W31 (Or.inl (by simp))
  have A_r : AJ K.Z h31 r [v, v, v, v, v, v, v, v, v, v, v, v, v, v, v, x15] := N31
  refine r_iinc (1 : Int32) (fun zz => #[.val (.ref r), .val (.long v), .second, .val (.int zz), .val (.int (16 : Int32))]) X31 cx J65m101_16 rfl rfl (fun _ => rfl) (fun i32 e_i32 => ?_)
  obtain rfl : i32 = (15 : Int32) := e_i32
  refine r_goto X31 cx J65m101_19 ?_
  refine r_iloadN X31 cx J65m101_6 rfl ?_
  refine r_iload X31 cx J65m101_7 rfl ?_
  refine r_icmpge X31 cx J65m101_9 (fun c => absurd c (by decide)) (fun _ => ?_)
  refine r_aloadN X31 cx J65m101_12 rfl ?_
  refine r_iloadN X31 cx J65m101_13 rfl ?_
  refine r_lloadN X31 cx J65m101_14 rfl ?_
  refine r_lastore X31 cx J65m101_15 A_r (15) rfl (ltb rfl) g_r (fun T33 h33 X33 W33 N33 => ?_)
  replace Kp := Kp.wr W33 (Or.inl (by simp))
  have A_r : AJ K.Z h33 r [v, v, v, v, v, v, v, v, v, v, v, v, v, v, v, v] := N33
  refine r_iinc (1 : Int32) (fun zz => #[.val (.ref r), .val (.long v), .second, .val (.int zz), .val (.int (16 : Int32))]) X33 cx J65m101_16 rfl rfl (fun _ => rfl) (fun i34 e_i34 => ?_)
  obtain rfl : i34 = (16 : Int32) := e_i34
  refine r_goto X33 cx J65m101_19 ?_
  refine r_iloadN X33 cx J65m101_6 rfl ?_
  refine r_iload X33 cx J65m101_7 rfl ?_
  refine r_icmpge X33 cx J65m101_9 (fun _ => ?_) (fun c => absurd c (by decide))
  refine r_return X33 cx J65m101_22 (by decide) (by decide) ?_
  exact ⟨Kp.1, rfl, A_r, Kp⟩
theorem P27m7_0 : Dc prog_27_method_7_code 0 (.iload_n 0) 1 1 := ⟨(by decide +kernel), rfl⟩
theorem P27m7_1 : Dc prog_27_method_7_code 1 (.newarray .long) 2 3 := ⟨(by decide +kernel), rfl⟩
theorem P27m7_3 : Dc prog_27_method_7_code 3 (.astore_n 1) 1 4 := ⟨(by decide +kernel), rfl⟩
theorem P27m7_4 : Dc prog_27_method_7_code 4 (.aload_n 1) 1 5 := ⟨(by decide +kernel), rfl⟩
theorem P27m7_5 : Dc prog_27_method_7_code 5 (.ldc2_w 24) 3 8 := ⟨(by decide +kernel), rfl⟩
theorem P27m7_8 : Dc prog_27_method_7_code 8 (.invokestatic 41) 3 11 := ⟨(by decide +kernel), rfl⟩
theorem P27m7_11 : Dc prog_27_method_7_code 11 (.aload_n 1) 1 12 := ⟨(by decide +kernel), rfl⟩
theorem P27m7_12 : Dc prog_27_method_7_code 12 (.areturn) 1 13 := ⟨(by decide +kernel), rfl⟩
theorem ef_P27m7 (m : MethodId)  : entryFrame m #[(.int (16 : Int32))] 2 = mkF m 0 #[.val (.int (16 : Int32)), .unset] [] := by first | (simp [entryFrame, mkF, argsToLocals, Value.category]; done) | rfl
set_option maxRecDepth 65536 in
set_option maxHeartbeats 40000000 in
theorem con_P27m7 (l : Launch) (Z : State) (a0 : Array Value) (hw : Tb tables_1 a0 Z)  (h0 : Heap) (n0 : Nat) (Z0 : n0 ≤ h0.size)  :
    Con l Z (⟨"com/example/dipper/dipper/model/LongCounts", "newKeys", "(I)[J"⟩ : MethodName) prog_27_method_7_code 2 (some (.array .long)) ({ frames := 1, cells := 1, slots := 16, locals := 16 } : Room) #[(.int (16 : Int32))] h0 n0 (fun u h => h0.size ≤ h.size ∧ ∃ r, u = some (.ref r) ∧ h0.size ≤ r ∧ n0 ≤ r ∧ AJ Z h r (List.replicate 16 (-1)) ∧ Keep h0 h []) := by
  refine Con.of (plainFor_of_name (by decide +kernel)) Z0 ?_
  intro K hl hZ hn cx T0 X0
  subst hl hZ hn
  refine Run.cast (ef_P27m7 K.m ) ?_
  have Kp : Keep h0 h0 [] := Keep.refl _ _
  refine r_iloadN X0 cx P27m7_0 rfl ?_
  refine r_newarray X0 cx P27m7_1 (hw.get 13 rfl) (16) 16 rfl (Nat.le_refl _) (by decide) (by decide) (by decide) (fun T1 h1 r ea1 g_r X1 Ex1 A1 => ?_)
  have fr_r : h0.size ≤ r := fr_new ea1 Kp.1
  replace Kp := Kp.ext Ex1
  have A_r : AJ K.Z h1 r [0, 0, 0, 0, 0, 0, 0, 0, 0, 0, 0, 0, 0, 0, 0, 0] := AJ.new A1
  refine r_astoreN #[.val (.int (16 : Int32)), .val (.ref r)] X1 cx P27m7_3 rfl ?_
  refine r_aloadN X1 cx P27m7_4 rfl ?_
  refine r_ldc2 X1 cx P27m7_5 (hw.get 14 rfl) ?_
  refine r_static [(.ref r), (.long (-1 : Int64))] [] X1 cx P27m7_8 (hw.get 15 rfl) (hw.get 16 rfl) (hw.get 17 rfl) (hw.get 18 rfl) (by decide) (con_J65m101 K.l K.Z a0 hw r (-1) h1 K.n0 X1.ge 0 0 0 0 0 0 0 0 0 0 0 0 0 0 0 0 A_r g_r) (lenOf pd_0 rfl) rfl rfl (by decide) (leb rfl) (by decide) (by decide) (fun T2 h2 v2 X2 q2 => ?_) (fun _ _ q => q.1)
  obtain ⟨z2, rfl, A_r, Kf⟩ := q2
  replace Kp := Kp.trans Kf (fun x hx => Or.inr (by rw [List.mem_singleton.mp hx]; exact fr_r))
  refine r_aloadN X2 cx P27m7_11 rfl ?_
  refine r_areturn X2 cx rfl P27m7_12 (by decide) (by decide) ?_
  exact ⟨Kp.1, r, rfl, fr_r, g_r, A_r, Kp⟩
theorem P27m1_0 : Dc prog_27_method_1_code 0 (.aload_n 0) 1 1 := ⟨(by decide +kernel), rfl⟩
theorem P27m1_1 : Dc prog_27_method_1_code 1 (.invokespecial 1) 3 4 := ⟨(by decide +kernel), rfl⟩
theorem P27m1_4 : Dc prog_27_method_1_code 4 (.aload_n 0) 1 5 := ⟨(by decide +kernel), rfl⟩
theorem P27m1_5 : Dc prog_27_method_1_code 5 (.bipush 16) 2 7 := ⟨(by decide +kernel), rfl⟩
theorem P27m1_7 : Dc prog_27_method_1_code 7 (.invokestatic 7) 3 10 := ⟨(by decide +kernel), rfl⟩
theorem P27m1_10 : Dc prog_27_method_1_code 10 (.putfield 13) 3 13 := ⟨(by decide +kernel), rfl⟩
theorem P27m1_13 : Dc prog_27_method_1_code 13 (.aload_n 0) 1 14 := ⟨(by decide +kernel), rfl⟩
theorem P27m1_14 : Dc prog_27_method_1_code 14 (.bipush 16) 2 16 := ⟨(by decide +kernel), rfl⟩
theorem P27m1_16 : Dc prog_27_method_1_code 16 (.newarray .long) 2 18 := ⟨(by decide +kernel), rfl⟩
theorem P27m1_18 : Dc prog_27_method_1_code 18 (.putfield 17) 3 21 := ⟨(by decide +kernel), rfl⟩
theorem P27m1_21 : Dc prog_27_method_1_code 21 (.return_) 1 22 := ⟨(by decide +kernel), rfl⟩
theorem ef_P27m1 (m : MethodId) (o : Addr) : entryFrame m #[(.ref o)] 1 = mkF m 0 #[.val (.ref o)] [] := by first | (simp [entryFrame, mkF, argsToLocals, Value.category]; done) | rfl
set_option maxRecDepth 65536 in
set_option maxHeartbeats 40000000 in
theorem con_P27m1 (l : Launch) (Z : State) (a0 : Array Value) (hw : Tb tables_1 a0 Z) (o : Addr) (h0 : Heap) (n0 : Nat) (Z0 : n0 ≤ h0.size) (E_o : Exa Z h0 o "com/example/dipper/dipper/model/LongCounts") (F_keys : Fld Z h0 o "com/example/dipper/dipper/model/LongCounts" "keys" "[J" .null) (F_counts : Fld Z h0 o "com/example/dipper/dipper/model/LongCounts" "counts" "[J" .null) (F_size : Fld Z h0 o "com/example/dipper/dipper/model/LongCounts" "size" "I" (.int 0)) (g_o : n0 ≤ o) :
    Con l Z (⟨"com/example/dipper/dipper/model/LongCounts", "<init>", "()V"⟩ : MethodName) prog_27_method_1_code 1 (none) ({ frames := 2, cells := 2, slots := 32, locals := 30 } : Room) #[(.ref o)] h0 n0 (fun u h => h0.size ≤ h.size ∧ u = none ∧ ∃ ak ac, LC Z n0 h o ak ac (List.replicate 16 (-1)) (List.replicate 16 0) 0) := by
  refine Con.of (plainFor_of_name (by decide +kernel)) Z0 ?_
  intro K hl hZ hn cx T0 X0
  subst hl hZ hn
  refine Run.cast (ef_P27m1 K.m o) ?_
  have Kp : Keep h0 h0 [o] := Keep.refl _ _
  refine r_aloadN X0 cx P27m1_0 rfl ?_
  refine r_initO X0 cx P27m1_1 (hw.get 7 rfl) (hw.get 8 rfl) (hw.get 9 rfl) rfl (by decide) (leb rfl) (fun T1 X1 => ?_)
  refine r_aloadN X1 cx P27m1_4 rfl ?_
  refine r_bipush (16) X1 cx P27m1_5 rfl ?_
  refine r_static [(.int (16 : Int32))] [(.ref o)] X1 cx P27m1_7 (hw.get 10 rfl) (hw.get 11 rfl) (hw.get 3 rfl) (hw.get 12 rfl) (by decide) (con_P27m7 K.l K.Z a0 hw h0 K.n0 X1.ge) (lenOf pd_1 rfl) rfl rfl (by decide) (leb rfl) (by decide) (by decide) (fun T2 h2 v2 X2 q2 => ?_) (fun _ _ q => q.1)
  obtain ⟨z2, ak, rfl, fr_ak, g_ak, A_ak, Kn⟩ := q2
  have ne_ak_o : ak ≠ o := Nat.ne_of_gt (Nat.lt_of_lt_of_le E_o.lt fr_ak)
  replace F_keys := F_keys.keep Kn nin0
  replace F_counts := F_counts.keep Kn nin0
  replace F_size := F_size.keep Kn nin0
  replace E_o := E_o.keep Kn
  replace Kp := Kp.trans Kn (fun x hx => by cases hx)
  refine r_putfield X2 cx P27m1_10 (hw.get 19 rfl) F_keys E_o (Or.inl (hw.get 20 rfl)) (hw.get 2 rfl) (ty := .array .long) (by decide) rfl rfl g_o (fun T3 h3 X3 W3 N3 => ?_)
  replace Kp := Kp.wr W3 (Or.inl (by simp))
  replace F_counts := F_counts.other W3 (Or.inr (slot_ne (Or.inl (hw.get 22 rfl)) (Or.inl (hw.get 20 rfl)) (by decide) (t := .array .long) (t' := .array .long) (by decide) (by decide)))
  replace F_size := F_size.other W3 (Or.inr (slot_ne (Or.inl (hw.get 29 rfl)) (Or.inl (hw.get 20 rfl)) (by decide) (t := .int) (t' := .array .long) (by decide) (by decide)))
  replace E_o := E_o.wr W3
  replace A_ak := A_ak.other W3 ne_ak_o
  have F_keys := N3
  refine r_aloadN X3 cx P27m1_13 rfl ?_
  refine r_bipush (16) X3 cx P27m1_14 rfl ?_
  refine r_newarray X3 cx P27m1_16 (hw.get 13 rfl) (16) 16 rfl (Nat.le_refl _) (by decide) (by decide) (by decide) (fun T4 h4 ac ea4 g_ac X4 Ex4 A4 => ?_)
  have fr_ac : h0.size ≤ ac := fr_new ea4 Kp.1
  replace Kp := Kp.ext Ex4
  have ne_ac_o : ac ≠ o := ne_new ea4 E_o.lt
  have ne_ac_ak : ac ≠ ak := ne_new ea4 A_ak.lt
  replace F_keys := F_keys.ext Ex4
  replace F_counts := F_counts.ext Ex4
  replace F_size := F_size.ext Ex4
  replace E_o := E_o.ext Ex4
  replace A_ak := A_ak.ext Ex4
  have A_ac : AJ K.Z h4 ac [0, 0, 0, 0, 0, 0, 0, 0, 0, 0, 0, 0, 0, 0, 0, 0] := AJ.new A4
  refine r_putfield X4 cx P27m1_18 (hw.get 21 rfl) F_counts E_o (Or.inl (hw.get 22 rfl)) (hw.get 2 rfl) (ty := .array .long) (by decide) rfl rfl g_o (fun T5 h5 X5 W5 N5 => ?_)
  replace Kp := Kp.wr W5 (Or.inl (by simp))
  replace F_keys := F_keys.other W5 (Or.inr (slot_ne (Or.inl (hw.get 20 rfl)) (Or.inl (hw.get 22 rfl)) (by decide) (t := .array .long) (t' := .array .long) (by decide) (by decide)))
  replace F_size := F_size.other W5 (Or.inr (slot_ne (Or.inl (hw.get 29 rfl)) (Or.inl (hw.get 22 rfl)) (by decide) (t := .int) (t' := .array .long) (by decide) (by decide)))
  replace E_o := E_o.wr W5
  replace A_ak := A_ak.other W5 ne_ak_o
  replace A_ac := A_ac.other W5 ne_ac_o
  have F_counts := N5
  refine r_return X5 cx P27m1_21 (by decide) (by decide) ?_
  exact ⟨Kp.1, rfl, ak, ac, E_o, F_keys, F_counts, F_size, A_ak, A_ac, ne_ak_o.symm, ne_ac_o.symm, ne_ac_ak.symm, g_o, g_ak, g_ac⟩
theorem J33m47_0 : Dc jdk_33_method_47_code 0 (.iload_n 0) 1 1 := ⟨(by decide +kernel), rfl⟩
theorem J33m47_1 : Db jdk_33_method_47_code 1 (.ifCond .gt 14) (14) 4 15 := ⟨(by decide +kernel), rfl, by decide, by decide⟩
theorem J33m47_4 : Dc jdk_33_method_47_code 4 (.iload_n 0) 1 5 := ⟨(by decide +kernel), rfl⟩
theorem J33m47_5 : Db jdk_33_method_47_code 5 (.ifCond .ne 8) (8) 8 13 := ⟨(by decide +kernel), rfl, by decide, by decide⟩
theorem J33m47_8 : Dc jdk_33_method_47_code 8 (.bipush 32) 2 10 := ⟨(by decide +kernel), rfl⟩
theorem J33m47_10 : Db jdk_33_method_47_code 10 (.goto 4) (4) 13 14 := ⟨(by decide +kernel), rfl, by decide, by decide⟩
theorem J33m47_13 : Dc jdk_33_method_47_code 13 (.iconst 0) 1 14 := ⟨(by decide +kernel), rfl⟩
theorem J33m47_14 : Dc jdk_33_method_47_code 14 (.ireturn) 1 15 := ⟨(by decide +kernel), rfl⟩
theorem J33m47_15 : Dc jdk_33_method_47_code 15 (.bipush 31) 2 17 := ⟨(by decide +kernel), rfl⟩
theorem J33m47_17 : Dc jdk_33_method_47_code 17 (.istore_n 1) 1 18 := ⟨(by decide +kernel), rfl⟩
theorem J33m47_18 : Dc jdk_33_method_47_code 18 (.iload_n 0) 1 19 := ⟨(by decide +kernel), rfl⟩
theorem J33m47_19 : Dc jdk_33_method_47_code 19 (.ldc_w 264) 3 22 := ⟨(by decide +kernel), rfl⟩
theorem J33m47_22 : Db jdk_33_method_47_code 22 (.if_icmp .lt 11) (11) 25 33 := ⟨(by decide +kernel), rfl, by decide, by decide⟩
theorem J33m47_25 : Dc jdk_33_method_47_code 25 (.iinc 1 (-16)) 3 28 := ⟨(by decide +kernel), rfl⟩
theorem J33m47_28 : Dc jdk_33_method_47_code 28 (.iload_n 0) 1 29 := ⟨(by decide +kernel), rfl⟩
theorem J33m47_29 : Dc jdk_33_method_47_code 29 (.bipush 16) 2 31 := ⟨(by decide +kernel), rfl⟩
theorem J33m47_31 : Dc jdk_33_method_47_code 31 (.iushr) 1 32 := ⟨(by decide +kernel), rfl⟩
theorem J33m47_32 : Dc jdk_33_method_47_code 32 (.istore_n 0) 1 33 := ⟨(by decide +kernel), rfl⟩
theorem J33m47_33 : Dc jdk_33_method_47_code 33 (.iload_n 0) 1 34 := ⟨(by decide +kernel), rfl⟩
theorem J33m47_34 : Dc jdk_33_method_47_code 34 (.sipush 256) 3 37 := ⟨(by decide +kernel), rfl⟩
theorem J33m47_37 : Db jdk_33_method_47_code 37 (.if_icmp .lt 11) (11) 40 48 := ⟨(by decide +kernel), rfl, by decide, by decide⟩
theorem J33m47_40 : Dc jdk_33_method_47_code 40 (.iinc 1 (-8)) 3 43 := ⟨(by decide +kernel), rfl⟩
theorem J33m47_43 : Dc jdk_33_method_47_code 43 (.iload_n 0) 1 44 := ⟨(by decide +kernel), rfl⟩
theorem J33m47_44 : Dc jdk_33_method_47_code 44 (.bipush 8) 2 46 := ⟨(by decide +kernel), rfl⟩
theorem J33m47_46 : Dc jdk_33_method_47_code 46 (.iushr) 1 47 := ⟨(by decide +kernel), rfl⟩
theorem J33m47_47 : Dc jdk_33_method_47_code 47 (.istore_n 0) 1 48 := ⟨(by decide +kernel), rfl⟩
theorem J33m47_48 : Dc jdk_33_method_47_code 48 (.iload_n 0) 1 49 := ⟨(by decide +kernel), rfl⟩
theorem J33m47_49 : Dc jdk_33_method_47_code 49 (.bipush 16) 2 51 := ⟨(by decide +kernel), rfl⟩
theorem J33m47_51 : Db jdk_33_method_47_code 51 (.if_icmp .lt 10) (10) 54 61 := ⟨(by decide +kernel), rfl, by decide, by decide⟩
theorem J33m47_54 : Dc jdk_33_method_47_code 54 (.iinc 1 (-4)) 3 57 := ⟨(by decide +kernel), rfl⟩
theorem J33m47_57 : Dc jdk_33_method_47_code 57 (.iload_n 0) 1 58 := ⟨(by decide +kernel), rfl⟩
theorem J33m47_58 : Dc jdk_33_method_47_code 58 (.iconst 4) 1 59 := ⟨(by decide +kernel), rfl⟩
theorem J33m47_59 : Dc jdk_33_method_47_code 59 (.iushr) 1 60 := ⟨(by decide +kernel), rfl⟩
theorem J33m47_60 : Dc jdk_33_method_47_code 60 (.istore_n 0) 1 61 := ⟨(by decide +kernel), rfl⟩
theorem J33m47_61 : Dc jdk_33_method_47_code 61 (.iload_n 0) 1 62 := ⟨(by decide +kernel), rfl⟩
theorem J33m47_62 : Dc jdk_33_method_47_code 62 (.iconst 4) 1 63 := ⟨(by decide +kernel), rfl⟩
theorem J33m47_63 : Db jdk_33_method_47_code 63 (.if_icmp .lt 10) (10) 66 73 := ⟨(by decide +kernel), rfl, by decide, by decide⟩
theorem J33m47_66 : Dc jdk_33_method_47_code 66 (.iinc 1 (-2)) 3 69 := ⟨(by decide +kernel), rfl⟩
theorem J33m47_69 : Dc jdk_33_method_47_code 69 (.iload_n 0) 1 70 := ⟨(by decide +kernel), rfl⟩
theorem J33m47_70 : Dc jdk_33_method_47_code 70 (.iconst 2) 1 71 := ⟨(by decide +kernel), rfl⟩
theorem J33m47_71 : Dc jdk_33_method_47_code 71 (.iushr) 1 72 := ⟨(by decide +kernel), rfl⟩
theorem J33m47_72 : Dc jdk_33_method_47_code 72 (.istore_n 0) 1 73 := ⟨(by decide +kernel), rfl⟩
theorem J33m47_73 : Dc jdk_33_method_47_code 73 (.iload_n 1) 1 74 := ⟨(by decide +kernel), rfl⟩
theorem J33m47_74 : Dc jdk_33_method_47_code 74 (.iload_n 0) 1 75 := ⟨(by decide +kernel), rfl⟩
theorem J33m47_75 : Dc jdk_33_method_47_code 75 (.iconst 1) 1 76 := ⟨(by decide +kernel), rfl⟩
theorem J33m47_76 : Dc jdk_33_method_47_code 76 (.iushr) 1 77 := ⟨(by decide +kernel), rfl⟩
theorem J33m47_77 : Dc jdk_33_method_47_code 77 (.isub) 1 78 := ⟨(by decide +kernel), rfl⟩
theorem J33m47_78 : Dc jdk_33_method_47_code 78 (.ireturn) 1 79 := ⟨(by decide +kernel), rfl⟩
theorem ef_J33m47 (m : MethodId)  : entryFrame m #[(.int (15 : Int32))] 2 = mkF m 0 #[.val (.int (15 : Int32)), .unset] [] := by first | (simp [entryFrame, mkF, argsToLocals, Value.category]; done) | rfl
set_option maxRecDepth 65536 in
set_option maxHeartbeats 40000000 in
theorem con_J33m47 (l : Launch) (Z : State) (a0 : Array Value) (hw : Tb tables_1 a0 Z)  (h0 : Heap) (n0 : Nat) (Z0 : n0 ≤ h0.size)  :
    Con l Z (⟨"java/lang/Integer", "numberOfLeadingZeros", "(I)I"⟩ : MethodName) jdk_33_method_47_code 2 (some (.int)) ({ frames := 0, cells := 0, slots := 0, locals := 0 } : Room) #[(.int (15 : Int32))] h0 n0 (fun v h => h0 = h ∧ v = some (.int 28)) := by
  refine Con.of (plainFor_of_name (by decide +kernel)) Z0 ?_
  intro K hl hZ hn cx T0 X0
  subst hl hZ hn
  refine Run.cast (ef_J33m47 K.m ) ?_
  refine r_iloadN X0 cx J33m47_0 rfl ?_
  refine r_ifgt X0 cx J33m47_1 (fun _ => ?_) (fun c => absurd c (by decide))
  refine r_bipush (31) X0 cx J33m47_15 rfl ?_
  refine r_istoreN (fun zz => #[.val (.int (15 : Int32)), .val (.int zz)]) X0 cx J33m47_17 (fun _ => rfl) (fun i1 e_i1 => ?_)
  subst e_i1
  refine r_iloadN X0 cx J33m47_18 rfl ?_
  refine r_ldcW X0 cx J33m47_19 (hw.get 47 rfl) ?_
  refine r_icmplt X0 cx J33m47_22 (fun _ => ?_) (fun c => absurd c (by decide))
  refine r_iloadN X0 cx J33m47_33 rfl ?_
  refine r_sipush (256) X0 cx J33m47_34 rfl ?_
  refine r_icmplt X0 cx J33m47_37 (fun _ => ?_) (fun c => absurd c (by decide))
  refine r_iloadN X0 cx J33m47_48 rfl ?_
  refine r_bipush (16) X0 cx J33m47_49 rfl ?_
  refine r_icmplt X0 cx J33m47_51 (fun _ => ?_) (fun c => absurd c (by decide))
  refine r_iloadN X0 cx J33m47_61 rfl ?_
  refine r_iconst (4) X0 cx J33m47_62 rfl ?_
  refine r_icmplt X0 cx J33m47_63 (fun c => absurd c (by decide)) (fun _ => ?_)
  refine r_iinc (-2 : Int32) (fun zz => #[.val (.int (15 : Int32)), .val (.int zz)]) X0 cx J33m47_66 rfl rfl (fun _ => rfl) (fun i2 e_i2 => ?_)
  obtain rfl : i2 = (29 : Int32) := e_i2
  refine r_iloadN X0 cx J33m47_69 rfl ?_
  refine r_iconst (2) X0 cx J33m47_70 rfl ?_
  refine r_iushr X0 cx J33m47_71 ?_
  refine r_top (v' := 3) (by decide) ?_
  refine r_istoreN (fun zz => #[.val (.int zz), .val (.int (29 : Int32))]) X0 cx J33m47_72 (fun _ => rfl) (fun i3 e_i3 => ?_)
  subst e_i3
  refine r_iloadN X0 cx J33m47_73 rfl ?_
  refine r_iloadN X0 cx J33m47_74 rfl ?_
  refine r_iconst (1) X0 cx J33m47_75 rfl ?_
  refine r_iushr X0 cx J33m47_76 ?_
  refine r_top (v' := 1) (by decide) ?_
  refine r_isub X0 cx J33m47_77 ?_
  refine r_top (v' := 28) (by decide) ?_
  refine r_ireturn X0 cx J33m47_78 (by decide) (by decide) ?_
  exact ⟨rfl, rfl⟩
theorem J35m48_0 : Dc jdk_35_method_48_code 0 (.lload_n 0) 1 1 := ⟨(by decide +kernel), rfl⟩
theorem J35m48_1 : Dc jdk_35_method_48_code 1 (.bipush 32) 2 3 := ⟨(by decide +kernel), rfl⟩
theorem J35m48_3 : Dc jdk_35_method_48_code 3 (.lushr) 1 4 := ⟨(by decide +kernel), rfl⟩
theorem J35m48_4 : Dc jdk_35_method_48_code 4 (.l2i) 1 5 := ⟨(by decide +kernel), rfl⟩
theorem J35m48_5 : Dc jdk_35_method_48_code 5 (.istore_n 2) 1 6 := ⟨(by decide +kernel), rfl⟩
theorem J35m48_6 : Dc jdk_35_method_48_code 6 (.iload_n 2) 1 7 := ⟨(by decide +kernel), rfl⟩
theorem J35m48_7 : Db jdk_35_method_48_code 7 (.ifCond .ne 14) (14) 10 21 := ⟨(by decide +kernel), rfl, by decide, by decide⟩
theorem J35m48_10 : Dc jdk_35_method_48_code 10 (.bipush 32) 2 12 := ⟨(by decide +kernel), rfl⟩
theorem J35m48_12 : Dc jdk_35_method_48_code 12 (.lload_n 0) 1 13 := ⟨(by decide +kernel), rfl⟩
theorem J35m48_13 : Dc jdk_35_method_48_code 13 (.l2i) 1 14 := ⟨(by decide +kernel), rfl⟩
theorem J35m48_14 : Dc jdk_35_method_48_code 14 (.invokestatic 308) 3 17 := ⟨(by decide +kernel), rfl⟩
theorem J35m48_17 : Dc jdk_35_method_48_code 17 (.iadd) 1 18 := ⟨(by decide +kernel), rfl⟩
theorem J35m48_18 : Db jdk_35_method_48_code 18 (.goto 7) (7) 21 25 := ⟨(by decide +kernel), rfl, by decide, by decide⟩
theorem J35m48_21 : Dc jdk_35_method_48_code 21 (.iload_n 2) 1 22 := ⟨(by decide +kernel), rfl⟩
theorem J35m48_22 : Dc jdk_35_method_48_code 22 (.invokestatic 308) 3 25 := ⟨(by decide +kernel), rfl⟩
theorem J35m48_25 : Dc jdk_35_method_48_code 25 (.ireturn) 1 26 := ⟨(by decide +kernel), rfl⟩
theorem ef_J35m48 (m : MethodId)  : entryFrame m #[(.long (15 : Int64))] 3 = mkF m 0 #[.val (.long (15 : Int64)), .second, .unset] [] := by first | (simp [entryFrame, mkF, argsToLocals, Value.category]; done) | rfl
set_option maxRecDepth 65536 in
set_option maxHeartbeats 40000000 in
theorem con_J35m48 (l : Launch) (Z : State) (a0 : Array Value) (hw : Tb tables_1 a0 Z)  (h0 : Heap) (n0 : Nat) (Z0 : n0 ≤ h0.size)  :
    Con l Z (⟨"java/lang/Long", "numberOfLeadingZeros", "(J)I"⟩ : MethodName) jdk_35_method_48_code 3 (some (.int)) ({ frames := 1, cells := 0, slots := 0, locals := 14 } : Room) #[(.long (15 : Int64))] h0 n0 (fun v h => h0 = h ∧ v = some (.int 60)) := by
  refine Con.of (plainFor_of_name (by decide +kernel)) Z0 ?_
  intro K hl hZ hn cx T0 X0
  subst hl hZ hn
  refine Run.cast (ef_J35m48 K.m ) ?_
  refine r_lloadN X0 cx J35m48_0 rfl ?_
  refine r_bipush (32) X0 cx J35m48_1 rfl ?_
  refine r_lushr X0 cx J35m48_3 ?_
  refine r_topL (v' := 0) (by decide) ?_
  refine r_l2i X0 cx J35m48_4 ?_
  refine r_top (v' := 0) (by decide) ?_
  refine r_istoreN (fun zz => #[.val (.long (15 : Int64)), .second, .val (.int zz)]) X0 cx J35m48_5 (fun _ => rfl) (fun i1 e_i1 => ?_)
  subst e_i1
  refine r_iloadN X0 cx J35m48_6 rfl ?_
  refine r_ifne X0 cx J35m48_7 (fun c => absurd c (by decide)) (fun _ => ?_)
  refine r_bipush (32) X0 cx J35m48_10 rfl ?_
  refine r_lloadN X0 cx J35m48_12 rfl ?_
  refine r_l2i X0 cx J35m48_13 ?_
  refine r_top (v' := 15) (by decide) ?_
  refine r_static [(.int (15 : Int32))] [(.int (32 : Int32))] X0 cx J35m48_14 (hw.get 43 rfl) (hw.get 44 rfl) (hw.get 45 rfl) (hw.get 46 rfl) (by decide) (con_J33m47 K.l K.Z a0 hw h0 K.n0 X0.ge) (lenOf pd_2 rfl) rfl rfl (by decide) (leb rfl) (by decide) (by decide) (fun T2 h2 v2 X2 q2 => ?_) (fun _ _ q => Nat.le_of_eq (congrArg Array.size q.1))
  obtain ⟨rfl, rfl⟩ := q2
  refine r_iadd X2 cx J35m48_17 ?_
  refine r_top (v' := 60) (by decide) ?_
  refine r_goto X2 cx J35m48_18 ?_
  refine r_ireturn X2 cx J35m48_25 (by decide) (by decide) ?_
  exact ⟨rfl, rfl⟩
theorem P27m5_0 : Dc prog_27_method_5_code 0 (.aload_n 0) 1 1 := ⟨(by decide +kernel), rfl⟩
theorem P27m5_1 : Dc prog_27_method_5_code 1 (.arraylength) 1 2 := ⟨(by decide +kernel), rfl⟩
theorem P27m5_2 : Dc prog_27_method_5_code 2 (.iconst 1) 1 3 := ⟨(by decide +kernel), rfl⟩
theorem P27m5_3 : Dc prog_27_method_5_code 3 (.isub) 1 4 := ⟨(by decide +kernel), rfl⟩
theorem P27m5_4 : Dc prog_27_method_5_code 4 (.istore_n 3) 1 5 := ⟨(by decide +kernel), rfl⟩
theorem P27m5_5 : Dc prog_27_method_5_code 5 (.lload_n 1) 1 6 := ⟨(by decide +kernel), rfl⟩
theorem P27m5_6 : Dc prog_27_method_5_code 6 (.ldc2_w 33) 3 9 := ⟨(by decide +kernel), rfl⟩
theorem P27m5_9 : Dc prog_27_method_5_code 9 (.lmul) 1 10 := ⟨(by decide +kernel), rfl⟩
theorem P27m5_10 : Dc prog_27_method_5_code 10 (.iload_n 3) 1 11 := ⟨(by decide +kernel), rfl⟩
theorem P27m5_11 : Dc prog_27_method_5_code 11 (.i2l) 1 12 := ⟨(by decide +kernel), rfl⟩
theorem P27m5_12 : Dc prog_27_method_5_code 12 (.invokestatic 35) 3 15 := ⟨(by decide +kernel), rfl⟩
theorem P27m5_15 : Dc prog_27_method_5_code 15 (.lushr) 1 16 := ⟨(by decide +kernel), rfl⟩
theorem P27m5_16 : Dc prog_27_method_5_code 16 (.l2i) 1 17 := ⟨(by decide +kernel), rfl⟩
theorem P27m5_17 : Dc prog_27_method_5_code 17 (.istore 4) 2 19 := ⟨(by decide +kernel), rfl⟩
theorem P27m5_19 : Dc prog_27_method_5_code 19 (.aload_n 0) 1 20 := ⟨(by decide +kernel), rfl⟩
theorem P27m5_20 : Dc prog_27_method_5_code 20 (.iload 4) 2 22 := ⟨(by decide +kernel), rfl⟩
theorem P27m5_22 : Dc prog_27_method_5_code 22 (.laload) 1 23 := ⟨(by decide +kernel), rfl⟩
theorem P27m5_23 : Dc prog_27_method_5_code 23 (.ldc2_w 24) 3 26 := ⟨(by decide +kernel), rfl⟩
theorem P27m5_26 : Dc prog_27_method_5_code 26 (.lcmp) 1 27 := ⟨(by decide +kernel), rfl⟩
theorem P27m5_27 : Db prog_27_method_5_code 27 (.ifCond .eq 23) (23) 30 50 := ⟨(by decide +kernel), rfl, by decide, by decide⟩
theorem P27m5_30 : Dc prog_27_method_5_code 30 (.aload_n 0) 1 31 := ⟨(by decide +kernel), rfl⟩
theorem P27m5_31 : Dc prog_27_method_5_code 31 (.iload 4) 2 33 := ⟨(by decide +kernel), rfl⟩
theorem P27m5_33 : Dc prog_27_method_5_code 33 (.laload) 1 34 := ⟨(by decide +kernel), rfl⟩
theorem P27m5_34 : Dc prog_27_method_5_code 34 (.lload_n 1) 1 35 := ⟨(by decide +kernel), rfl⟩
theorem P27m5_35 : Dc prog_27_method_5_code 35 (.lcmp) 1 36 := ⟨(by decide +kernel), rfl⟩
theorem P27m5_36 : Db prog_27_method_5_code 36 (.ifCond .eq 14) (14) 39 50 := ⟨(by decide +kernel), rfl, by decide, by decide⟩
theorem P27m5_39 : Dc prog_27_method_5_code 39 (.iload 4) 2 41 := ⟨(by decide +kernel), rfl⟩
theorem P27m5_41 : Dc prog_27_method_5_code 41 (.iconst 1) 1 42 := ⟨(by decide +kernel), rfl⟩
theorem P27m5_42 : Dc prog_27_method_5_code 42 (.iadd) 1 43 := ⟨(by decide +kernel), rfl⟩
theorem P27m5_43 : Dc prog_27_method_5_code 43 (.iload_n 3) 1 44 := ⟨(by decide +kernel), rfl⟩
theorem P27m5_44 : Dc prog_27_method_5_code 44 (.iand) 1 45 := ⟨(by decide +kernel), rfl⟩
theorem P27m5_45 : Dc prog_27_method_5_code 45 (.istore 4) 2 47 := ⟨(by decide +kernel), rfl⟩
theorem P27m5_47 : Db prog_27_method_5_code 47 (.goto (-28)) (-28) 50 19 := ⟨(by decide +kernel), rfl, by decide, by decide⟩
theorem P27m5_50 : Dc prog_27_method_5_code 50 (.iload 4) 2 52 := ⟨(by decide +kernel), rfl⟩
theorem P27m5_52 : Dc prog_27_method_5_code 52 (.ireturn) 1 53 := ⟨(by decide +kernel), rfl⟩
set_option maxRecDepth 65536 in
set_option maxHeartbeats 40000000 in
theorem own_sloop {K : KT} {a0 : Array Value} (cx : Cx K (⟨"com/example/dipper/dipper/model/LongCounts", "slot", "([JJ)I"⟩ : MethodName) prog_27_method_5_code 5 (some .int) ({ frames := 2, cells := 0, slots := 0, locals := 30 } : Room)) (hw : Tb tables_1 a0 K.Z) (r : Addr) (k : Int64) (h0 : Heap) (ks : List Int64) (A_r : AJ K.Z h0 r ks) (hl : ks.length = 16) (p : Nat) :
    ∀ (f i : Nat) (T0 : State), i < 16 → own_pr f ks k i = p → (own_g ks p = -1 ∨ own_g ks p = k) → Sd K T0 h0 0 0 →
      Run K (fun v h => h0 = h ∧ v = some (.int (Int32.ofNat p))) T0 (mkF K.m 19 #[.val (.ref r), .val (.long k), .second, .val (.int (15 : Int32)), .val (.int (Int32.ofNat i))] []) := by
  intro f
  induction f with
  | zero =>
    intro i T0 hi hp hs X0
    have hp' : i = p := hp
    subst hp'
    refine r_aloadN X0 cx P27m5_19 rfl ?_
    refine r_iload X0 cx P27m5_20 rfl ?_
    refine r_laload X0 cx P27m5_22 A_r (i) rfl (v := (own_g ks i)) (own_gd (by omega)) ?_
    refine r_ldc2 X0 cx P27m5_23 (hw.get 14 rfl) ?_
    refine r_lcmp X0 cx P27m5_26 ?_
    refine r_lcmpeq X0 cx P27m5_27 (fun c27 => ?_) (fun c27 => ?_)
    · refine r_iload X0 cx P27m5_50 rfl ?_
      refine r_ireturn X0 cx P27m5_52 (by decide) (by decide) ?_
      exact ⟨rfl, rfl⟩
    · refine r_aloadN X0 cx P27m5_30 rfl ?_
      refine r_iload X0 cx P27m5_31 rfl ?_
      refine r_laload X0 cx P27m5_33 A_r (i) rfl (v := (own_g ks i)) (own_gd (by omega)) ?_
      refine r_lloadN X0 cx P27m5_34 rfl ?_
      refine r_lcmp X0 cx P27m5_35 ?_
      refine r_lcmpeq X0 cx P27m5_36 (fun c36 => ?_) (fun c36 => ?_)
      · refine r_iload X0 cx P27m5_50 rfl ?_
        refine r_ireturn X0 cx P27m5_52 (by decide) (by decide) ?_
        exact ⟨rfl, rfl⟩
      · exact absurd hs (by simp [c27, c36])
  | succ f ih =>
    intro i T0 hi hp hs X0
    refine r_aloadN X0 cx P27m5_19 rfl ?_
    refine r_iload X0 cx P27m5_20 rfl ?_
    refine r_laload X0 cx P27m5_22 A_r (i) rfl (v := (own_g ks i)) (own_gd (by omega)) ?_
    refine r_ldc2 X0 cx P27m5_23 (hw.get 14 rfl) ?_
    refine r_lcmp X0 cx P27m5_26 ?_
    refine r_lcmpeq X0 cx P27m5_27 (fun c27 => ?_) (fun c27 => ?_)
    · refine r_iload X0 cx P27m5_50 rfl ?_
      refine r_ireturn X0 cx P27m5_52 (by decide) (by decide) ?_
      unfold own_pr at hp
      rw [if_pos (Or.inl c27)] at hp
      subst hp
      exact ⟨rfl, rfl⟩
    · refine r_aloadN X0 cx P27m5_30 rfl ?_
      refine r_iload X0 cx P27m5_31 rfl ?_
      refine r_laload X0 cx P27m5_33 A_r (i) rfl (v := (own_g ks i)) (own_gd (by omega)) ?_
      refine r_lloadN X0 cx P27m5_34 rfl ?_
      refine r_lcmp X0 cx P27m5_35 ?_
      refine r_lcmpeq X0 cx P27m5_36 (fun c36 => ?_) (fun c36 => ?_)
      · refine r_iload X0 cx P27m5_50 rfl ?_
        refine r_ireturn X0 cx P27m5_52 (by decide) (by decide) ?_
        unfold own_pr at hp
        rw [if_pos (Or.inr c36)] at hp
        subst hp
        exact ⟨rfl, rfl⟩
      · refine r_iload X0 cx P27m5_39 rfl ?_
        refine r_iconst (1) X0 cx P27m5_41 rfl ?_
        refine r_iadd X0 cx P27m5_42 ?_
        refine r_iloadN X0 cx P27m5_43 rfl ?_
        refine r_iand X0 cx P27m5_44 ?_
        refine r_istore (fun zz => #[.val (.ref r), .val (.long k), .second, .val (.int (15 : Int32)), .val (.int zz)]) X0 cx P27m5_45 (fun _ => rfl) (fun i2 e_i2 => ?_)
        refine r_goto X0 cx P27m5_47 ?_
        unfold own_pr at hp
        rw [if_neg (by simp [c27, c36])] at hp
        have e2 := e_i2.trans (own_i16 ⟨i, hi⟩)
        simp only at e2
        subst e2
        exact ih _ _ (Nat.mod_lt _ (by decide)) hp hs X0
theorem ef_P27m5 (m : MethodId) (r : Addr) (k : Int64) : entryFrame m #[(.ref r), (.long k)] 5 = mkF m 0 #[.val (.ref r), .val (.long k), .second, .unset, .unset] [] := by first | (simp [entryFrame, mkF, argsToLocals, Value.category]; done) | rfl
set_option maxRecDepth 65536 in
set_option maxHeartbeats 40000000 in
theorem con_P27m5 (l : Launch) (Z : State) (a0 : Array Value) (hw : Tb tables_1 a0 Z) (r : Addr) (k : Int64) (h0 : Heap) (n0 : Nat) (Z0 : n0 ≤ h0.size) (ks : List Int64) (A_r : AJ Z h0 r ks) (hl : ks.length = 16) (p : Nat) (hp : own_pr 16 ks k (own_hash k) = p) (hs : own_g ks p = -1 ∨ own_g ks p = k) :
    Con l Z (⟨"com/example/dipper/dipper/model/LongCounts", "slot", "([JJ)I"⟩ : MethodName) prog_27_method_5_code 5 (some (.int)) ({ frames := 2, cells := 0, slots := 0, locals := 30 } : Room) #[(.ref r), (.long k)] h0 n0 (fun v h => h0 = h ∧ v = some (.int (Int32.ofNat p))) := by
  refine Con.of (plainFor_of_name (by decide +kernel)) Z0 ?_
  intro K hl hZ hn cx T0 X0
  subst hl hZ hn
  refine Run.cast (ef_P27m5 K.m r k) ?_
  refine r_aloadN X0 cx P27m5_0 rfl ?_
  refine r_alenJ X0 cx P27m5_1 A_r (16) hl ?_
  refine r_iconst (1) X0 cx P27m5_2 rfl ?_
  refine r_isub X0 cx P27m5_3 ?_
  refine r_top (v' := 15) (by decide) ?_
  refine r_istoreN (fun zz => #[.val (.ref r), .val (.long k), .second, .val (.int zz), .unset]) X0 cx P27m5_4 (fun _ => rfl) (fun i1 e_i1 => ?_)
  subst e_i1
  refine r_lloadN X0 cx P27m5_5 rfl ?_
  refine r_ldc2 X0 cx P27m5_6 (hw.get 38 rfl) ?_
  refine r_lmul X0 cx P27m5_9 ?_
  refine r_iloadN X0 cx P27m5_10 rfl ?_
  refine r_i2l X0 cx P27m5_11 ?_
  refine r_topL (v' := 15) (by decide) ?_
  refine r_static [(.long (15 : Int64))] [(.long (k * (-7046029254386353131 : Int64)))] X0 cx P27m5_12 (hw.get 39 rfl) (hw.get 40 rfl) (hw.get 41 rfl) (hw.get 42 rfl) (by decide) (con_J35m48 K.l K.Z a0 hw h0 K.n0 X0.ge) (lenOf pd_3 rfl) rfl rfl (by decide) (leb rfl) (by decide) (by decide) (fun T2 h2 v2 X2 q2 => ?_) (fun _ _ q => Nat.le_of_eq (congrArg Array.size q.1))
  obtain ⟨rfl, rfl⟩ := q2
  refine r_lushr X2 cx P27m5_15 ?_
  refine r_l2i X2 cx P27m5_16 ?_
  refine r_istore (fun zz => #[.val (.ref r), .val (.long k), .second, .val (.int (15 : Int32)), .val (.int zz)]) X2 cx P27m5_17 (fun _ => rfl) (fun sl0 e_sl0 => ?_)
  replace e_sl0 := e_sl0.trans (own_hk k)
  subst e_sl0
  exact own_sloop cx hw r k h0 ks A_r hl p 16 _ _ (own_hl k) hp hs X2
theorem P27m2_0 : Dc prog_27_method_2_code 0 (.aload_n 0) 1 1 := ⟨(by decide +kernel), rfl⟩
theorem P27m2_1 : Dc prog_27_method_2_code 1 (.getfield 13) 3 4 := ⟨(by decide +kernel), rfl⟩
theorem P27m2_4 : Dc prog_27_method_2_code 4 (.lload_n 1) 1 5 := ⟨(by decide +kernel), rfl⟩
theorem P27m2_5 : Dc prog_27_method_2_code 5 (.invokestatic 20) 3 8 := ⟨(by decide +kernel), rfl⟩
theorem P27m2_8 : Dc prog_27_method_2_code 8 (.istore 5) 2 10 := ⟨(by decide +kernel), rfl⟩
theorem P27m2_10 : Dc prog_27_method_2_code 10 (.aload_n 0) 1 11 := ⟨(by decide +kernel), rfl⟩
theorem P27m2_11 : Dc prog_27_method_2_code 11 (.getfield 13) 3 14 := ⟨(by decide +kernel), rfl⟩
theorem P27m2_14 : Dc prog_27_method_2_code 14 (.iload 5) 2 16 := ⟨(by decide +kernel), rfl⟩
theorem P27m2_16 : Dc prog_27_method_2_code 16 (.laload) 1 17 := ⟨(by decide +kernel), rfl⟩
theorem P27m2_17 : Dc prog_27_method_2_code 17 (.ldc2_w 24) 3 20 := ⟨(by decide +kernel), rfl⟩
theorem P27m2_20 : Dc prog_27_method_2_code 20 (.lcmp) 1 21 := ⟨(by decide +kernel), rfl⟩
theorem P27m2_21 : Db prog_27_method_2_code 21 (.ifCond .ne 21) (21) 24 42 := ⟨(by decide +kernel), rfl, by decide, by decide⟩
theorem P27m2_24 : Dc prog_27_method_2_code 24 (.aload_n 0) 1 25 := ⟨(by decide +kernel), rfl⟩
theorem P27m2_25 : Dc prog_27_method_2_code 25 (.getfield 13) 3 28 := ⟨(by decide +kernel), rfl⟩
theorem P27m2_28 : Dc prog_27_method_2_code 28 (.iload 5) 2 30 := ⟨(by decide +kernel), rfl⟩
theorem P27m2_30 : Dc prog_27_method_2_code 30 (.lload_n 1) 1 31 := ⟨(by decide +kernel), rfl⟩
theorem P27m2_31 : Dc prog_27_method_2_code 31 (.lastore) 1 32 := ⟨(by decide +kernel), rfl⟩
theorem P27m2_32 : Dc prog_27_method_2_code 32 (.aload_n 0) 1 33 := ⟨(by decide +kernel), rfl⟩
theorem P27m2_33 : Dc prog_27_method_2_code 33 (.dup) 1 34 := ⟨(by decide +kernel), rfl⟩
theorem P27m2_34 : Dc prog_27_method_2_code 34 (.getfield 26) 3 37 := ⟨(by decide +kernel), rfl⟩
theorem P27m2_37 : Dc prog_27_method_2_code 37 (.iconst 1) 1 38 := ⟨(by decide +kernel), rfl⟩
theorem P27m2_38 : Dc prog_27_method_2_code 38 (.iadd) 1 39 := ⟨(by decide +kernel), rfl⟩
theorem P27m2_39 : Dc prog_27_method_2_code 39 (.putfield 26) 3 42 := ⟨(by decide +kernel), rfl⟩
theorem P27m2_42 : Dc prog_27_method_2_code 42 (.aload_n 0) 1 43 := ⟨(by decide +kernel), rfl⟩
theorem P27m2_43 : Dc prog_27_method_2_code 43 (.getfield 17) 3 46 := ⟨(by decide +kernel), rfl⟩
theorem P27m2_46 : Dc prog_27_method_2_code 46 (.iload 5) 2 48 := ⟨(by decide +kernel), rfl⟩
theorem P27m2_48 : Dc prog_27_method_2_code 48 (.dup2) 1 49 := ⟨(by decide +kernel), rfl⟩
theorem P27m2_49 : Dc prog_27_method_2_code 49 (.laload) 1 50 := ⟨(by decide +kernel), rfl⟩
theorem P27m2_50 : Dc prog_27_method_2_code 50 (.lload_n 3) 1 51 := ⟨(by decide +kernel), rfl⟩
theorem P27m2_51 : Dc prog_27_method_2_code 51 (.ladd) 1 52 := ⟨(by decide +kernel), rfl⟩
theorem P27m2_52 : Dc prog_27_method_2_code 52 (.lastore) 1 53 := ⟨(by decide +kernel), rfl⟩
theorem P27m2_53 : Dc prog_27_method_2_code 53 (.aload_n 0) 1 54 := ⟨(by decide +kernel), rfl⟩
theorem P27m2_54 : Dc prog_27_method_2_code 54 (.getfield 26) 3 57 := ⟨(by decide +kernel), rfl⟩
theorem P27m2_57 : Dc prog_27_method_2_code 57 (.iconst 2) 1 58 := ⟨(by decide +kernel), rfl⟩
theorem P27m2_58 : Dc prog_27_method_2_code 58 (.imul) 1 59 := ⟨(by decide +kernel), rfl⟩
theorem P27m2_59 : Dc prog_27_method_2_code 59 (.aload_n 0) 1 60 := ⟨(by decide +kernel), rfl⟩
theorem P27m2_60 : Dc prog_27_method_2_code 60 (.getfield 13) 3 63 := ⟨(by decide +kernel), rfl⟩
theorem P27m2_63 : Dc prog_27_method_2_code 63 (.arraylength) 1 64 := ⟨(by decide +kernel), rfl⟩
theorem P27m2_64 : Db prog_27_method_2_code 64 (.if_icmp .le 7) (7) 67 71 := ⟨(by decide +kernel), rfl, by decide, by decide⟩
theorem P27m2_67 : Dc prog_27_method_2_code 67 (.aload_n 0) 1 68 := ⟨(by decide +kernel), rfl⟩
theorem P27m2_68 : Dc prog_27_method_2_code 68 (.invokevirtual 30) 3 71 := ⟨(by decide +kernel), rfl⟩
theorem P27m2_71 : Dc prog_27_method_2_code 71 (.return_) 1 72 := ⟨(by decide +kernel), rfl⟩
theorem ef_P27m2_0 (m : MethodId) (o : Addr) (k : Int64) (am : Int64) : entryFrame m #[(.ref o), (.long k), (.long am)] 6 = mkF m 0 #[.val (.ref o), .val (.long k), .second, .val (.long am), .second, .unset] [] := by first | (simp [entryFrame, mkF, argsToLocals, Value.category]; done) | rfl
set_option maxRecDepth 65536 in
set_option maxHeartbeats 40000000 in
theorem con_P27m2_0 (l : Launch) (Z : State) (a0 : Array Value) (hw : Tb tables_1 a0 Z) (o : Addr) (k : Int64) (am : Int64) (h0 : Heap) (n0 : Nat) (Z0 : n0 ≤ h0.size) (ak ac : Addr) (ks cs : List Int64) (p : Nat) (B : LC Z n0 h0 o ak ac ks cs 0) (hl : ks.length = 16) (hc : cs.length = 16) (hk : k ≠ -1) (hp : own_pr 16 ks k (own_hash k) = p) (hs : own_g ks p = -1 ∨ own_g ks p = k) :
    Con l Z (⟨"com/example/dipper/dipper/model/LongCounts", "add", "(JJ)V"⟩ : MethodName) prog_27_method_2_code 6 (none) ({ frames := 3, cells := 0, slots := 0, locals := 46 } : Room) #[(.ref o), (.long k), (.long am)] h0 n0 (fun u h => h0.size ≤ h.size ∧ u = none ∧ ∃ cs2 : List Int64, cs2.length = 16 ∧ ((own_g ks p = -1 ∧ LC Z n0 h o ak ac (ks.set p k) cs2 1) ∨ (own_g ks p = k ∧ LC Z n0 h o ak ac ks cs2 0))) := by
  refine Con.of (plainFor_of_name (by decide +kernel)) Z0 ?_
  intro K hl hZ hn cx T0 X0
  subst hl hZ hn
  refine Run.cast (ef_P27m2_0 K.m o k am) ?_
  have hp16 : p < 16 := hp ▸ own_prl _ _ _ _ (own_hl k)
  obtain ⟨E_o, F_keys, F_counts, F_size, A_ak, A_ac, ne_o_ak, ne_o_ac, ne_ak_ac, g_o, g_ak, g_ac⟩ := B
  have Kp : Keep h0 h0 [o, ak, ac] := Keep.refl _ _
  refine r_aloadN X0 cx P27m2_0 rfl ?_
  refine r_getfield X0 cx P27m2_1 (hw.get 19 rfl) F_keys (fun T1 X1 => ?_)
  refine r_lloadN X1 cx P27m2_4 rfl ?_
  refine r_static [(.ref ak), (.long k)] [] X1 cx P27m2_5 (hw.get 35 rfl) (hw.get 36 rfl) (hw.get 3 rfl) (hw.get 37 rfl) (by decide) (con_P27m5 K.l K.Z a0 hw ak k h0 K.n0 X1.ge ks A_ak hl p hp hs) (lenOf pd_4 rfl) rfl rfl (by decide) (leb rfl) (by decide) (by decide) (fun T2 h2 v2 X2 q2 => ?_) (fun _ _ q => Nat.le_of_eq (congrArg Array.size q.1))
  obtain ⟨rfl, rfl⟩ := q2
  refine r_istore (fun zz => #[.val (.ref o), .val (.long k), .second, .val (.long am), .second, .val (.int zz)]) X2 cx P27m2_8 (fun _ => rfl) (fun sl1 e_sl1 => ?_)
  subst e_sl1
  refine r_aloadN X2 cx P27m2_10 rfl ?_
  refine r_getfield X2 cx P27m2_11 (hw.get 19 rfl) F_keys (fun T3 X3 => ?_)
  refine r_iload X3 cx P27m2_14 rfl ?_
  refine r_laload X3 cx P27m2_16 A_ak (p) rfl (v := (own_g ks p)) (own_gd (by omega)) ?_
  refine r_ldc2 X3 cx P27m2_17 (hw.get 14 rfl) ?_
  refine r_lcmp X3 cx P27m2_20 ?_
  refine r_lcmpne X3 cx P27m2_21 (fun c21 => ?_) (fun c21 => ?_)
  · refine r_aloadN X3 cx P27m2_42 rfl ?_
    refine r_getfield X3 cx P27m2_43 (hw.get 21 rfl) F_counts (fun T4 X4 => ?_)
    refine r_iload X4 cx P27m2_46 rfl ?_
    refine r_dup2 X4 cx P27m2_48 rfl rfl ?_
    refine r_laload X4 cx P27m2_49 A_ac (p) rfl (v := (own_g cs p)) (own_gd (by omega)) ?_
    refine r_lloadN X4 cx P27m2_50 rfl ?_
    refine r_ladd X4 cx P27m2_51 ?_
    refine r_lastore X4 cx P27m2_52 A_ac (p) rfl (by omega) g_ac (fun T5 h5 X5 W5 N5 => ?_)
    replace Kp := Kp.wr W5 (Or.inl (by simp))
    replace F_keys := F_keys.other W5 (Or.inl ne_o_ac)
    replace F_counts := F_counts.other W5 (Or.inl ne_o_ac)
    replace F_size := F_size.other W5 (Or.inl ne_o_ac)
    replace E_o := E_o.wr W5
    replace A_ak := A_ak.other W5 ne_ak_ac
    have A_ac : AJ K.Z h5 ac (cs.set p (own_g cs p + am)) := N5
    refine r_aloadN X5 cx P27m2_53 rfl ?_
    refine r_getfield X5 cx P27m2_54 (hw.get 28 rfl) F_size (fun T6 X6 => ?_)
    refine r_iconst (2) X6 cx P27m2_57 rfl ?_
    refine r_imul X6 cx P27m2_58 ?_
    refine r_top (v' := 0) (by decide) ?_
    refine r_aloadN X6 cx P27m2_59 rfl ?_
    refine r_getfield X6 cx P27m2_60 (hw.get 19 rfl) F_keys (fun T7 X7 => ?_)
    refine r_alenJ X7 cx P27m2_63 A_ak (16) hl ?_
    refine r_icmple X7 cx P27m2_64 (fun _ => ?_) (fun c => absurd c (by decide))
    refine r_return X7 cx P27m2_71 (by decide) (by decide) ?_
    exact ⟨Kp.1, rfl, _, by rw [List.length_set]; exact hc, Or.inr ⟨hs.resolve_left c21, ⟨E_o, F_keys, F_counts, F_size, A_ak, A_ac, ne_o_ak, ne_o_ac, ne_ak_ac, g_o, g_ak, g_ac⟩⟩⟩
  · refine r_aloadN X3 cx P27m2_24 rfl ?_
    refine r_getfield X3 cx P27m2_25 (hw.get 19 rfl) F_keys (fun T4 X4 => ?_)
    refine r_iload X4 cx P27m2_28 rfl ?_
    refine r_lloadN X4 cx P27m2_30 rfl ?_
    refine r_lastore X4 cx P27m2_31 A_ak (p) rfl (by omega) g_ak (fun T5 h5 X5 W5 N5 => ?_)
    replace Kp := Kp.wr W5 (Or.inl (by simp))
    replace F_keys := F_keys.other W5 (Or.inl ne_o_ak)
    replace F_counts := F_counts.other W5 (Or.inl ne_o_ak)
    replace F_size := F_size.other W5 (Or.inl ne_o_ak)
    replace E_o := E_o.wr W5
    replace A_ac := A_ac.other W5 ne_ak_ac.symm
    have A_ak : AJ K.Z h5 ak (ks.set p k) := N5
    refine r_aloadN X5 cx P27m2_32 rfl ?_
    refine r_dup X5 cx P27m2_33 rfl ?_
    refine r_getfield X5 cx P27m2_34 (hw.get 28 rfl) F_size (fun T6 X6 => ?_)
    refine r_iconst (1) X6 cx P27m2_37 rfl ?_
    refine r_iadd X6 cx P27m2_38 ?_
    refine r_top (v' := 1) (by decide) ?_
    refine r_putfield X6 cx P27m2_39 (hw.get 28 rfl) F_size E_o (Or.inl (hw.get 29 rfl)) (hw.get 2 rfl) (ty := .int) (by decide) rfl rfl g_o (fun T7 h7 X7 W7 N7 => ?_)
    replace Kp := Kp.wr W7 (Or.inl (by simp))
    replace F_keys := F_keys.other W7 (Or.inr (slot_ne (Or.inl (hw.get 20 rfl)) (Or.inl (hw.get 29 rfl)) (by decide) (t := .array .long) (t' := .int) (by decide) (by decide)))
    replace F_counts := F_counts.other W7 (Or.inr (slot_ne (Or.inl (hw.get 22 rfl)) (Or.inl (hw.get 29 rfl)) (by decide) (t := .array .long) (t' := .int) (by decide) (by decide)))
    replace E_o := E_o.wr W7
    replace A_ak := A_ak.other W7 ne_o_ak.symm
    replace A_ac := A_ac.other W7 ne_o_ac.symm
    have F_size := N7
    refine r_aloadN X7 cx P27m2_42 rfl ?_
    refine r_getfield X7 cx P27m2_43 (hw.get 21 rfl) F_counts (fun T8 X8 => ?_)
    refine r_iload X8 cx P27m2_46 rfl ?_
    refine r_dup2 X8 cx P27m2_48 rfl rfl ?_
    refine r_laload X8 cx P27m2_49 A_ac (p) rfl (v := (own_g cs p)) (own_gd (by omega)) ?_
    refine r_lloadN X8 cx P27m2_50 rfl ?_
    refine r_ladd X8 cx P27m2_51 ?_
    refine r_lastore X8 cx P27m2_52 A_ac (p) rfl (by omega) g_ac (fun T9 h9 X9 W9 N9 => ?_)
    replace Kp := Kp.wr W9 (Or.inl (by simp))
    replace F_keys := F_keys.other W9 (Or.inl ne_o_ac)
    replace F_counts := F_counts.other W9 (Or.inl ne_o_ac)
    replace F_size := F_size.other W9 (Or.inl ne_o_ac)
    replace E_o := E_o.wr W9
    replace A_ak := A_ak.other W9 ne_ak_ac
    have A_ac : AJ K.Z h9 ac (cs.set p (own_g cs p + am)) := N9
    refine r_aloadN X9 cx P27m2_53 rfl ?_
    refine r_getfield X9 cx P27m2_54 (hw.get 28 rfl) F_size (fun T10 X10 => ?_)
    refine r_iconst (2) X10 cx P27m2_57 rfl ?_
    refine r_imul X10 cx P27m2_58 ?_
    refine r_top (v' := 2) (by decide) ?_
    refine r_aloadN X10 cx P27m2_59 rfl ?_
    refine r_getfield X10 cx P27m2_60 (hw.get 19 rfl) F_keys (fun T11 X11 => ?_)
    refine r_alenJ X11 cx P27m2_63 A_ak (16) (by rw [List.length_set]; exact hl) ?_
    refine r_icmple X11 cx P27m2_64 (fun _ => ?_) (fun c => absurd c (by decide))
    refine r_return X11 cx P27m2_71 (by decide) (by decide) ?_
    exact ⟨Kp.1, rfl, _, by rw [List.length_set]; exact hc, Or.inl ⟨c21, ⟨E_o, F_keys, F_counts, F_size, A_ak, A_ac, ne_o_ak, ne_o_ac, ne_ak_ac, g_o, g_ak, g_ac⟩⟩⟩
theorem ef_P27m2_1 (m : MethodId) (o : Addr) (k : Int64) (am : Int64) : entryFrame m #[(.ref o), (.long k), (.long am)] 6 = mkF m 0 #[.val (.ref o), .val (.long k), .second, .val (.long am), .second, .unset] [] := by first | (simp [entryFrame, mkF, argsToLocals, Value.category]; done) | rfl
set_option maxRecDepth 65536 in
set_option maxHeartbeats 40000000 in
theorem con_P27m2_1 (l : Launch) (Z : State) (a0 : Array Value) (hw : Tb tables_1 a0 Z) (o : Addr) (k : Int64) (am : Int64) (h0 : Heap) (n0 : Nat) (Z0 : n0 ≤ h0.size) (ak ac : Addr) (ks cs : List Int64) (p : Nat) (B : LC Z n0 h0 o ak ac ks cs 1) (hl : ks.length = 16) (hc : cs.length = 16) (hk : k ≠ -1) (hp : own_pr 16 ks k (own_hash k) = p) (hs : own_g ks p = -1 ∨ own_g ks p = k) :
    Con l Z (⟨"com/example/dipper/dipper/model/LongCounts", "add", "(JJ)V"⟩ : MethodName) prog_27_method_2_code 6 (none) ({ frames := 3, cells := 0, slots := 0, locals := 46 } : Room) #[(.ref o), (.long k), (.long am)] h0 n0 (fun u h => h0.size ≤ h.size ∧ u = none ∧ ∃ cs2 : List Int64, cs2.length = 16 ∧ ((own_g ks p = -1 ∧ LC Z n0 h o ak ac (ks.set p k) cs2 2) ∨ (own_g ks p = k ∧ LC Z n0 h o ak ac ks cs2 1))) := by
  refine Con.of (plainFor_of_name (by decide +kernel)) Z0 ?_
  intro K hl hZ hn cx T0 X0
  subst hl hZ hn
  refine Run.cast (ef_P27m2_1 K.m o k am) ?_
  have hp16 : p < 16 := hp ▸ own_prl _ _ _ _ (own_hl k)
  obtain ⟨E_o, F_keys, F_counts, F_size, A_ak, A_ac, ne_o_ak, ne_o_ac, ne_ak_ac, g_o, g_ak, g_ac⟩ := B
  have Kp : Keep h0 h0 [o, ak, ac] := Keep.refl _ _
  refine r_aloadN X0 cx P27m2_0 rfl ?_
  refine r_getfield X0 cx P27m2_1 (hw.get 19 rfl) F_keys (fun T1 X1 => ?_)
  refine r_lloadN X1 cx P27m2_4 rfl ?_
  refine r_static [(.ref ak), (.long k)] [] X1 cx P27m2_5 (hw.get 35 rfl) (hw.get 36 rfl) (hw.get 3 rfl) (hw.get 37 rfl) (by decide) (con_P27m5 K.l K.Z a0 hw ak k h0 K.n0 X1.ge ks A_ak hl p hp hs) (lenOf pd_4 rfl) rfl rfl (by decide) (leb rfl) (by decide) (by decide) (fun T2 h2 v2 X2 q2 => ?_) (fun _ _ q => Nat.le_of_eq (congrArg Array.size q.1))
  obtain ⟨rfl, rfl⟩ := q2
  refine r_istore (fun zz => #[.val (.ref o), .val (.long k), .second, .val (.long am), .second, .val (.int zz)]) X2 cx P27m2_8 (fun _ => rfl) (fun sl1 e_sl1 => ?_)
  subst e_sl1
  refine r_aloadN X2 cx P27m2_10 rfl ?_
  refine r_getfield X2 cx P27m2_11 (hw.get 19 rfl) F_keys (fun T3 X3 => ?_)
  refine r_iload X3 cx P27m2_14 rfl ?_
  refine r_laload X3 cx P27m2_16 A_ak (p) rfl (v := (own_g ks p)) (own_gd (by omega)) ?_
  refine r_ldc2 X3 cx P27m2_17 (hw.get 14 rfl) ?_
  refine r_lcmp X3 cx P27m2_20 ?_
  refine r_lcmpne X3 cx P27m2_21 (fun c21 => ?_) (fun c21 => ?_)
  · refine r_aloadN X3 cx P27m2_42 rfl ?_
    refine r_getfield X3 cx P27m2_43 (hw.get 21 rfl) F_counts (fun T4 X4 => ?_)
    refine r_iload X4 cx P27m2_46 rfl ?_
    refine r_dup2 X4 cx P27m2_48 rfl rfl ?_
    refine r_laload X4 cx P27m2_49 A_ac (p) rfl (v := (own_g cs p)) (own_gd (by omega)) ?_
    refine r_lloadN X4 cx P27m2_50 rfl ?_
    refine r_ladd X4 cx P27m2_51 ?_
    refine r_lastore X4 cx P27m2_52 A_ac (p) rfl (by omega) g_ac (fun T5 h5 X5 W5 N5 => ?_)
    replace Kp := Kp.wr W5 (Or.inl (by simp))
    replace F_keys := F_keys.other W5 (Or.inl ne_o_ac)
    replace F_counts := F_counts.other W5 (Or.inl ne_o_ac)
    replace F_size := F_size.other W5 (Or.inl ne_o_ac)
    replace E_o := E_o.wr W5
    replace A_ak := A_ak.other W5 ne_ak_ac
    have A_ac : AJ K.Z h5 ac (cs.set p (own_g cs p + am)) := N5
    refine r_aloadN X5 cx P27m2_53 rfl ?_
    refine r_getfield X5 cx P27m2_54 (hw.get 28 rfl) F_size (fun T6 X6 => ?_)
    refine r_iconst (2) X6 cx P27m2_57 rfl ?_
    refine r_imul X6 cx P27m2_58 ?_
    refine r_top (v' := 2) (by decide) ?_
    refine r_aloadN X6 cx P27m2_59 rfl ?_
    refine r_getfield X6 cx P27m2_60 (hw.get 19 rfl) F_keys (fun T7 X7 => ?_)
    refine r_alenJ X7 cx P27m2_63 A_ak (16) hl ?_
    refine r_icmple X7 cx P27m2_64 (fun _ => ?_) (fun c => absurd c (by decide))
    refine r_return X7 cx P27m2_71 (by decide) (by decide) ?_
    exact ⟨Kp.1, rfl, _, by rw [List.length_set]; exact hc, Or.inr ⟨hs.resolve_left c21, ⟨E_o, F_keys, F_counts, F_size, A_ak, A_ac, ne_o_ak, ne_o_ac, ne_ak_ac, g_o, g_ak, g_ac⟩⟩⟩
  · refine r_aloadN X3 cx P27m2_24 rfl ?_
    refine r_getfield X3 cx P27m2_25 (hw.get 19 rfl) F_keys (fun T4 X4 => ?_)
    refine r_iload X4 cx P27m2_28 rfl ?_
    refine r_lloadN X4 cx P27m2_30 rfl ?_
    refine r_lastore X4 cx P27m2_31 A_ak (p) rfl (by omega) g_ak (fun T5 h5 X5 W5 N5 => ?_)
    replace Kp := Kp.wr W5 (Or.inl (by simp))
    replace F_keys := F_keys.other W5 (Or.inl ne_o_ak)
    replace F_counts := F_counts.other W5 (Or.inl ne_o_ak)
    replace F_size := F_size.other W5 (Or.inl ne_o_ak)
    replace E_o := E_o.wr W5
    replace A_ac := A_ac.other W5 ne_ak_ac.symm
    have A_ak : AJ K.Z h5 ak (ks.set p k) := N5
    refine r_aloadN X5 cx P27m2_32 rfl ?_
    refine r_dup X5 cx P27m2_33 rfl ?_
    refine r_getfield X5 cx P27m2_34 (hw.get 28 rfl) F_size (fun T6 X6 => ?_)
    refine r_iconst (1) X6 cx P27m2_37 rfl ?_
    refine r_iadd X6 cx P27m2_38 ?_
    refine r_top (v' := 2) (by decide) ?_
    refine r_putfield X6 cx P27m2_39 (hw.get 28 rfl) F_size E_o (Or.inl (hw.get 29 rfl)) (hw.get 2 rfl) (ty := .int) (by decide) rfl rfl g_o (fun T7 h7 X7 W7 N7 => ?_)
    replace Kp := Kp.wr W7 (Or.inl (by simp))
    replace F_keys := F_keys.other W7 (Or.inr (slot_ne (Or.inl (hw.get 20 rfl)) (Or.inl (hw.get 29 rfl)) (by decide) (t := .array .long) (t' := .int) (by decide) (by decide)))
    replace F_counts := F_counts.other W7 (Or.inr (slot_ne (Or.inl (hw.get 22 rfl)) (Or.inl (hw.get 29 rfl)) (by decide) (t := .array .long) (t' := .int) (by decide) (by decide)))
    replace E_o := E_o.wr W7
    replace A_ak := A_ak.other W7 ne_o_ak.symm
    replace A_ac := A_ac.other W7 ne_o_ac.symm
    have F_size := N7
    refine r_aloadN X7 cx P27m2_42 rfl ?_
    refine r_getfield X7 cx P27m2_43 (hw.get 21 rfl) F_counts (fun T8 X8 => ?_)
    refine r_iload X8 cx P27m2_46 rfl ?_
    refine r_dup2 X8 cx P27m2_48 rfl rfl ?_
    refine r_laload X8 cx P27m2_49 A_ac (p) rfl (v := (own_g cs p)) (own_gd (by omega)) ?_
    refine r_lloadN X8 cx P27m2_50 rfl ?_
    refine r_ladd X8 cx P27m2_51 ?_
    refine r_lastore X8 cx P27m2_52 A_ac (p) rfl (by omega) g_ac (fun T9 h9 X9 W9 N9 => ?_)
    replace Kp := Kp.wr W9 (Or.inl (by simp))
    replace F_keys := F_keys.other W9 (Or.inl ne_o_ac)
    replace F_counts := F_counts.other W9 (Or.inl ne_o_ac)
    replace F_size := F_size.other W9 (Or.inl ne_o_ac)
    replace E_o := E_o.wr W9
    replace A_ak := A_ak.other W9 ne_ak_ac
    have A_ac : AJ K.Z h9 ac (cs.set p (own_g cs p + am)) := N9
    refine r_aloadN X9 cx P27m2_53 rfl ?_
    refine r_getfield X9 cx P27m2_54 (hw.get 28 rfl) F_size (fun T10 X10 => ?_)
    refine r_iconst (2) X10 cx P27m2_57 rfl ?_
    refine r_imul X10 cx P27m2_58 ?_
    refine r_top (v' := 4) (by decide) ?_
    refine r_aloadN X10 cx P27m2_59 rfl ?_
    refine r_getfield X10 cx P27m2_60 (hw.get 19 rfl) F_keys (fun T11 X11 => ?_)
    refine r_alenJ X11 cx P27m2_63 A_ak (16) (by rw [List.length_set]; exact hl) ?_
    refine r_icmple X11 cx P27m2_64 (fun _ => ?_) (fun c => absurd c (by decide))
    refine r_return X11 cx P27m2_71 (by decide) (by decide) ?_
    exact ⟨Kp.1, rfl, _, by rw [List.length_set]; exact hc, Or.inl ⟨c21, ⟨E_o, F_keys, F_counts, F_size, A_ak, A_ac, ne_o_ak, ne_o_ac, ne_ak_ac, g_o, g_ak, g_ac⟩⟩⟩
theorem ef_P27m2_2 (m : MethodId) (o : Addr) (k : Int64) (am : Int64) : entryFrame m #[(.ref o), (.long k), (.long am)] 6 = mkF m 0 #[.val (.ref o), .val (.long k), .second, .val (.long am), .second, .unset] [] := by first | (simp [entryFrame, mkF, argsToLocals, Value.category]; done) | rfl
set_option maxRecDepth 65536 in
set_option maxHeartbeats 40000000 in
theorem con_P27m2_2 (l : Launch) (Z : State) (a0 : Array Value) (hw : Tb tables_1 a0 Z) (o : Addr) (k : Int64) (am : Int64) (h0 : Heap) (n0 : Nat) (Z0 : n0 ≤ h0.size) (ak ac : Addr) (ks cs : List Int64) (p : Nat) (B : LC Z n0 h0 o ak ac ks cs 2) (hl : ks.length = 16) (hc : cs.length = 16) (hk : k ≠ -1) (hp : own_pr 16 ks k (own_hash k) = p) (hs : own_g ks p = -1 ∨ own_g ks p = k) :
    Con l Z (⟨"com/example/dipper/dipper/model/LongCounts", "add", "(JJ)V"⟩ : MethodName) prog_27_method_2_code 6 (none) ({ frames := 3, cells := 0, slots := 0, locals := 46 } : Room) #[(.ref o), (.long k), (.long am)] h0 n0 (fun u h => h0.size ≤ h.size ∧ u = none ∧ ∃ cs2 : List Int64, cs2.length = 16 ∧ ((own_g ks p = -1 ∧ LC Z n0 h o ak ac (ks.set p k) cs2 3) ∨ (own_g ks p = k ∧ LC Z n0 h o ak ac ks cs2 2))) := by
  refine Con.of (plainFor_of_name (by decide +kernel)) Z0 ?_
  intro K hl hZ hn cx T0 X0
  subst hl hZ hn
  refine Run.cast (ef_P27m2_2 K.m o k am) ?_
  have hp16 : p < 16 := hp ▸ own_prl _ _ _ _ (own_hl k)
  obtain ⟨E_o, F_keys, F_counts, F_size, A_ak, A_ac, ne_o_ak, ne_o_ac, ne_ak_ac, g_o, g_ak, g_ac⟩ := B
  have Kp : Keep h0 h0 [o, ak, ac] := Keep.refl _ _
  refine r_aloadN X0 cx P27m2_0 rfl ?_
  refine r_getfield X0 cx P27m2_1 (hw.get 19 rfl) F_keys (fun T1 X1 => ?_)
  refine r_lloadN X1 cx P27m2_4 rfl ?_
  refine r_static [(.ref ak), (.long k)] [] X1 cx P27m2_5 (hw.get 35 rfl) (hw.get 36 rfl) (hw.get 3 rfl) (hw.get 37 rfl) (by decide) (con_P27m5 K.l K.Z a0 hw ak k h0 K.n0 X1.ge ks A_ak hl p hp hs) (lenOf pd_4 rfl) rfl rfl (by decide) (leb rfl) (by decide) (by decide) (fun T2 h2 v2 X2 q2 => ?_) (fun _ _ q => Nat.le_of_eq (congrArg Array.size q.1))
  obtain ⟨rfl, rfl⟩ := q2
  refine r_istore (fun zz => #[.val (.ref o), .val (.long k), .second, .val (.long am), .second, .val (.int zz)]) X2 cx P27m2_8 (fun _ => rfl) (fun sl1 e_sl1 => ?_)
  subst e_sl1
  refine r_aloadN X2 cx P27m2_10 rfl ?_
  refine r_getfield X2 cx P27m2_11 (hw.get 19 rfl) F_keys (fun T3 X3 => ?_)
  refine r_iload X3 cx P27m2_14 rfl ?_
  refine r_laload X3 cx P27m2_16 A_ak (p) rfl (v := (own_g ks p)) (own_gd (by omega)) ?_
  refine r_ldc2 X3 cx P27m2_17 (hw.get 14 rfl) ?_
  refine r_lcmp X3 cx P27m2_20 ?_
  refine r_lcmpne X3 cx P27m2_21 (fun c21 => ?_) (fun c21 => ?_)
  · refine r_aloadN X3 cx P27m2_42 rfl ?_
    refine r_getfield X3 cx P27m2_43 (hw.get 21 rfl) F_counts (fun T4 X4 => ?_)
    refine r_iload X4 cx P27m2_46 rfl ?_
    refine r_dup2 X4 cx P27m2_48 rfl rfl ?_
    refine r_laload X4 cx P27m2_49 A_ac (p) rfl (v := (own_g cs p)) (own_gd (by omega)) ?_
    refine r_lloadN X4 cx P27m2_50 rfl ?_
    refine r_ladd X4 cx P27m2_51 ?_
    refine r_lastore X4 cx P27m2_52 A_ac (p) rfl (by omega) g_ac (fun T5 h5 X5 W5 N5 => ?_)
    replace Kp := Kp.wr W5 (Or.inl (by simp))
    replace F_keys := F_keys.other W5 (Or.inl ne_o_ac)
    replace F_counts := F_counts.other W5 (Or.inl ne_o_ac)
    replace F_size := F_size.other W5 (Or.inl ne_o_ac)
    replace E_o := E_o.wr W5
    replace A_ak := A_ak.other W5 ne_ak_ac
    have A_ac : AJ K.Z h5 ac (cs.set p (own_g cs p + am)) := N5
    refine r_aloadN X5 cx P27m2_53 rfl ?_
    refine r_getfield X5 cx P27m2_54 (hw.get 28 rfl) F_size (fun T6 X6 => ?_)
    refine r_iconst (2) X6 cx P27m2_57 rfl ?_
    refine r_imul X6 cx P27m2_58 ?_
    refine r_top (v' := 4) (by decide) ?_
    refine r_aloadN X6 cx P27m2_59 rfl ?_
    refine r_getfield X6 cx P27m2_60 (hw.get 19 rfl) F_keys (fun T7 X7 => ?_)
    refine r_alenJ X7 cx P27m2_63 A_ak (16) hl ?_
    refine r_icmple X7 cx P27m2_64 (fun _ => ?_) (fun c => absurd c (by decide))
    refine r_return X7 cx P27m2_71 (by decide) (by decide) ?_
    exact ⟨Kp.1, rfl, _, by rw [List.length_set]; exact hc, Or.inr ⟨hs.resolve_left c21, ⟨E_o, F_keys, F_counts, F_size, A_ak, A_ac, ne_o_ak, ne_o_ac, ne_ak_ac, g_o, g_ak, g_ac⟩⟩⟩
  · refine r_aloadN X3 cx P27m2_24 rfl ?_
    refine r_getfield X3 cx P27m2_25 (hw.get 19 rfl) F_keys (fun T4 X4 => ?_)
    refine r_iload X4 cx P27m2_28 rfl ?_
    refine r_lloadN X4 cx P27m2_30 rfl ?_
    refine r_lastore X4 cx P27m2_31 A_ak (p) rfl (by omega) g_ak (fun T5 h5 X5 W5 N5 => ?_)
    replace Kp := Kp.wr W5 (Or.inl (by simp))
    replace F_keys := F_keys.other W5 (Or.inl ne_o_ak)
    replace F_counts := F_counts.other W5 (Or.inl ne_o_ak)
    replace F_size := F_size.other W5 (Or.inl ne_o_ak)
    replace E_o := E_o.wr W5
    replace A_ac := A_ac.other W5 ne_ak_ac.symm
    have A_ak : AJ K.Z h5 ak (ks.set p k) := N5
    refine r_aloadN X5 cx P27m2_32 rfl ?_
    refine r_dup X5 cx P27m2_33 rfl ?_
    refine r_getfield X5 cx P27m2_34 (hw.get 28 rfl) F_size (fun T6 X6 => ?_)
    refine r_iconst (1) X6 cx P27m2_37 rfl ?_
    refine r_iadd X6 cx P27m2_38 ?_
    refine r_top (v' := 3) (by decide) ?_
    refine r_putfield X6 cx P27m2_39 (hw.get 28 rfl) F_size E_o (Or.inl (hw.get 29 rfl)) (hw.get 2 rfl) (ty := .int) (by decide) rfl rfl g_o (fun T7 h7 X7 W7 N7 => ?_)
    replace Kp := Kp.wr W7 (Or.inl (by simp))
    replace F_keys := F_keys.other W7 (Or.inr (slot_ne (Or.inl (hw.get 20 rfl)) (Or.inl (hw.get 29 rfl)) (by decide) (t := .array .long) (t' := .int) (by decide) (by decide)))
    replace F_counts := F_counts.other W7 (Or.inr (slot_ne (Or.inl (hw.get 22 rfl)) (Or.inl (hw.get 29 rfl)) (by decide) (t := .array .long) (t' := .int) (by decide) (by decide)))
    replace E_o := E_o.wr W7
    replace A_ak := A_ak.other W7 ne_o_ak.symm
    replace A_ac := A_ac.other W7 ne_o_ac.symm
    have F_size := N7
    refine r_aloadN X7 cx P27m2_42 rfl ?_
    refine r_getfield X7 cx P27m2_43 (hw.get 21 rfl) F_counts (fun T8 X8 => ?_)
    refine r_iload X8 cx P27m2_46 rfl ?_
    refine r_dup2 X8 cx P27m2_48 rfl rfl ?_
    refine r_laload X8 cx P27m2_49 A_ac (p) rfl (v := (own_g cs p)) (own_gd (by omega)) ?_
    refine r_lloadN X8 cx P27m2_50 rfl ?_
    refine r_ladd X8 cx P27m2_51 ?_
    refine r_lastore X8 cx P27m2_52 A_ac (p) rfl (by omega) g_ac (fun T9 h9 X9 W9 N9 => ?_)
    replace Kp := Kp.wr W9 (Or.inl (by simp))
    replace F_keys := F_keys.other W9 (Or.inl ne_o_ac)
    replace F_counts := F_counts.other W9 (Or.inl ne_o_ac)
    replace F_size := F_size.other W9 (Or.inl ne_o_ac)
    replace E_o := E_o.wr W9
    replace A_ak := A_ak.other W9 ne_ak_ac
    have A_ac : AJ K.Z h9 ac (cs.set p (own_g cs p + am)) := N9
    refine r_aloadN X9 cx P27m2_53 rfl ?_
    refine r_getfield X9 cx P27m2_54 (hw.get 28 rfl) F_size (fun T10 X10 => ?_)
    refine r_iconst (2) X10 cx P27m2_57 rfl ?_
    refine r_imul X10 cx P27m2_58 ?_
    refine r_top (v' := 6) (by decide) ?_
    refine r_aloadN X10 cx P27m2_59 rfl ?_
    refine r_getfield X10 cx P27m2_60 (hw.get 19 rfl) F_keys (fun T11 X11 => ?_)
    refine r_alenJ X11 cx P27m2_63 A_ak (16) (by rw [List.length_set]; exact hl) ?_
    refine r_icmple X11 cx P27m2_64 (fun _ => ?_) (fun c => absurd c (by decide))
    refine r_return X11 cx P27m2_71 (by decide) (by decide) ?_
    exact ⟨Kp.1, rfl, _, by rw [List.length_set]; exact hc, Or.inl ⟨c21, ⟨E_o, F_keys, F_counts, F_size, A_ak, A_ac, ne_o_ak, ne_o_ac, ne_ak_ac, g_o, g_ak, g_ac⟩⟩⟩
theorem P27m4_0 : Dc prog_27_method_4_code 0 (.aload_n 0) 1 1 := ⟨(by decide +kernel), rfl⟩
theorem P27m4_1 : Dc prog_27_method_4_code 1 (.getfield 26) 3 4 := ⟨(by decide +kernel), rfl⟩
theorem P27m4_4 : Dc prog_27_method_4_code 4 (.newarray .long) 2 6 := ⟨(by decide +kernel), rfl⟩
theorem P27m4_6 : Dc prog_27_method_4_code 6 (.astore_n 1) 1 7 := ⟨(by decide +kernel), rfl⟩
theorem P27m4_7 : Dc prog_27_method_4_code 7 (.iconst 0) 1 8 := ⟨(by decide +kernel), rfl⟩
theorem P27m4_8 : Dc prog_27_method_4_code 8 (.istore_n 2) 1 9 := ⟨(by decide +kernel), rfl⟩
theorem P27m4_9 : Dc prog_27_method_4_code 9 (.aload_n 0) 1 10 := ⟨(by decide +kernel), rfl⟩
theorem P27m4_10 : Dc prog_27_method_4_code 10 (.getfield 13) 3 13 := ⟨(by decide +kernel), rfl⟩
theorem P27m4_13 : Dc prog_27_method_4_code 13 (.astore_n 3) 1 14 := ⟨(by decide +kernel), rfl⟩
theorem P27m4_14 : Dc prog_27_method_4_code 14 (.aload_n 3) 1 15 := ⟨(by decide +kernel), rfl⟩
theorem P27m4_15 : Dc prog_27_method_4_code 15 (.arraylength) 1 16 := ⟨(by decide +kernel), rfl⟩
theorem P27m4_16 : Dc prog_27_method_4_code 16 (.istore 4) 2 18 := ⟨(by decide +kernel), rfl⟩
theorem P27m4_18 : Dc prog_27_method_4_code 18 (.iconst 0) 1 19 := ⟨(by decide +kernel), rfl⟩
theorem P27m4_19 : Dc prog_27_method_4_code 19 (.istore 5) 2 21 := ⟨(by decide +kernel), rfl⟩
theorem P27m4_21 : Dc prog_27_method_4_code 21 (.iload 5) 2 23 := ⟨(by decide +kernel), rfl⟩
theorem P27m4_23 : Dc prog_27_method_4_code 23 (.iload 4) 2 25 := ⟨(by decide +kernel), rfl⟩
theorem P27m4_25 : Db prog_27_method_4_code 25 (.if_icmp .ge 32) (32) 28 57 := ⟨(by decide +kernel), rfl, by decide, by decide⟩
theorem P27m4_28 : Dc prog_27_method_4_code 28 (.aload_n 3) 1 29 := ⟨(by decide +kernel), rfl⟩
theorem P27m4_29 : Dc prog_27_method_4_code 29 (.iload 5) 2 31 := ⟨(by decide +kernel), rfl⟩
theorem P27m4_31 : Dc prog_27_method_4_code 31 (.laload) 1 32 := ⟨(by decide +kernel), rfl⟩
theorem P27m4_32 : Dc prog_27_method_4_code 32 (.lstore 6) 2 34 := ⟨(by decide +kernel), rfl⟩
theorem P27m4_34 : Dc prog_27_method_4_code 34 (.lload 6) 2 36 := ⟨(by decide +kernel), rfl⟩
theorem P27m4_36 : Dc prog_27_method_4_code 36 (.ldc2_w 24) 3 39 := ⟨(by decide +kernel), rfl⟩
theorem P27m4_39 : Dc prog_27_method_4_code 39 (.lcmp) 1 40 := ⟨(by decide +kernel), rfl⟩
theorem P27m4_40 : Db prog_27_method_4_code 40 (.ifCond .eq 11) (11) 43 51 := ⟨(by decide +kernel), rfl, by decide, by decide⟩
theorem P27m4_43 : Dc prog_27_method_4_code 43 (.aload_n 1) 1 44 := ⟨(by decide +kernel), rfl⟩
theorem P27m4_44 : Dc prog_27_method_4_code 44 (.iload_n 2) 1 45 := ⟨(by decide +kernel), rfl⟩
theorem P27m4_45 : Dc prog_27_method_4_code 45 (.lload 6) 2 47 := ⟨(by decide +kernel), rfl⟩
theorem P27m4_47 : Dc prog_27_method_4_code 47 (.lastore) 1 48 := ⟨(by decide +kernel), rfl⟩
theorem P27m4_48 : Dc prog_27_method_4_code 48 (.iinc 2 1) 3 51 := ⟨(by decide +kernel), rfl⟩
theorem P27m4_51 : Dc prog_27_method_4_code 51 (.iinc 5 1) 3 54 := ⟨(by decide +kernel), rfl⟩
theorem P27m4_54 : Db prog_27_method_4_code 54 (.goto (-33)) (-33) 57 21 := ⟨(by decide +kernel), rfl, by decide, by decide⟩
theorem P27m4_57 : Dc prog_27_method_4_code 57 (.aload_n 1) 1 58 := ⟨(by decide +kernel), rfl⟩
theorem P27m4_58 : Dc prog_27_method_4_code 58 (.areturn) 1 59 := ⟨(by decide +kernel), rfl⟩
def own_pad (xs : List Int64) (s : Nat) : List Int64 := xs ++ List.replicate (s - xs.length) 0
theorem own_padl {xs : List Int64} {s : Nat} (h : xs.length ≤ s) : (own_pad xs s).length = s := by unfold own_pad; simp; omega
theorem own_pads {xs : List Int64} {s : Nat} {k : Int64} (h : xs.length < s) : (own_pad xs s).set xs.length k = own_pad (xs ++ [k]) s := by
  unfold own_pad
  obtain ⟨d, hd⟩ : ∃ d, s - xs.length = d + 1 := ⟨s - xs.length - 1, by omega⟩
  have e : s - (xs ++ [k]).length = d := by simp; omega
  rw [hd, e, List.set_append_right _ _ (Nat.le_refl _), Nat.sub_self, List.replicate_succ, List.set_cons_zero, List.append_assoc]
  rfl
theorem own_padf {xs : List Int64} {s : Nat} (h : xs.length = s) : own_pad xs s = xs := by unfold own_pad; rw [h, Nat.sub_self]; simp
theorem own_tk (ks : List Int64) (i : Nat) (h : i < ks.length) : own_f (ks.take (i + 1)) = own_f (ks.take i) ++ (if own_g ks i = -1 then [] else [own_g ks i]) := by
  unfold own_f
  rw [List.take_succ, own_gd h, List.filter_append]
  congr 1
  by_cases q : own_g ks i = -1
  · rw [if_pos q, q]; rfl
  · rw [if_neg q]
    simp [q]
theorem own_tl (ks : List Int64) (i : Nat) : (own_f (ks.take i)).length ≤ (own_f ks).length := by
  unfold own_f
  exact (List.Sublist.filter _ (List.take_sublist i ks)).length_le
theorem own_ltn {a b : Nat} (ha : a < 100) (hb : b < 100) : Int32.ofNat a < Int32.ofNat b ↔ a < b := by
  rw [Int32.lt_iff_toInt_lt, Int32.toInt_ofNat_of_lt (by omega), Int32.toInt_ofNat_of_lt (by omega)]
  omega
set_option maxRecDepth 65536 in
set_option maxHeartbeats 40000000 in
theorem own_kloop {K : KT} {a0 : Array Value} {s : Nat} (cx : Cx K (⟨"com/example/dipper/dipper/model/LongCounts", "keys", "()[J"⟩ : MethodName) prog_27_method_4_code 8 (some (.array .long)) ({ frames := 0, cells := 1, slots := s, locals := 0 } : Room)) (hw : Tb tables_1 a0 K.Z) (o ra ak : Addr) (h0 : Heap) (ks : List Int64) (hl : ks.length = 16) (hs : (own_f ks).length = s) (hs3 : s ≤ 3) (g_ra : K.n0 ≤ ra) (ne_ra_ak : ra ≠ ak) :
    ∀ (m i : Nat) (s6 s7 : Slot) (T0 : State) (h : Heap), i + m = 16 → h0.size ≤ h.size → AJ K.Z h ak ks → AJ K.Z h ra (own_pad (own_f (ks.take i)) s) →
      (∀ v : Int64, storeLocals #[.val (.ref o), .val (.ref ra), .val (.int (Int32.ofNat (own_f (ks.take i)).length)), .val (.ref ak), .val (.int (16 : Int32)), .val (.int (Int32.ofNat i)), s6, s7] 6 (.long v) = some #[.val (.ref o), .val (.ref ra), .val (.int (Int32.ofNat (own_f (ks.take i)).length)), .val (.ref ak), .val (.int (16 : Int32)), .val (.int (Int32.ofNat i)), .val (.long v), .second]) → Sd K T0 h 1 s →
      Run K (fun u h => h0.size ≤ h.size ∧ ∃ a, u = some (.ref a) ∧ AJ K.Z h a (own_f ks)) T0 (mkF K.m 21 #[.val (.ref o), .val (.ref ra), .val (.int (Int32.ofNat (own_f (ks.take i)).length)), .val (.ref ak), .val (.int (16 : Int32)), .val (.int (Int32.ofNat i)), s6, s7] []) := by
  intro m
  induction m with
  | zero =>
    intro i s6 s7 T0 h hm hsz A_ak A_ra hst X0
    obtain rfl : i = 16 := by omega
    refine r_iload X0 cx P27m4_21 rfl ?_
    refine r_iload X0 cx P27m4_23 rfl ?_
    refine r_icmpge X0 cx P27m4_25 (fun c25 => ?_) (fun c25 => ?_)
    · refine r_aloadN X0 cx P27m4_57 rfl ?_
      refine r_areturn X0 cx rfl P27m4_58 (Nat.le_refl _) (Nat.le_refl _) ?_
      refine ⟨hsz, ra, rfl, ?_⟩
      rw [List.take_of_length_le (by omega), own_padf hs] at A_ra
      exact A_ra
    · exact absurd c25 (by decide)
  | succ m ih =>
    intro i s6 s7 T0 h hm hsz A_ak A_ra hst X0
    refine r_iload X0 cx P27m4_21 rfl ?_
    refine r_iload X0 cx P27m4_23 rfl ?_
    refine r_icmpge X0 cx P27m4_25 (fun c25 => ?_) (fun c25 => ?_)
    · exact absurd ((own_ltn (by omega) (b := 16) (by decide)).mpr (by omega)) c25
    · refine r_aloadN X0 cx P27m4_28 rfl ?_
      refine r_iload X0 cx P27m4_29 rfl ?_
      refine r_laload X0 cx P27m4_31 A_ak (i) rfl (v := (own_g ks i)) (own_gd (by omega)) ?_
      refine r_lstore (fun zz => #[.val (.ref o), .val (.ref ra), .val (.int (Int32.ofNat (own_f (ks.take i)).length)), .val (.ref ak), .val (.int (16 : Int32)), .val (.int (Int32.ofNat i)), .val (.long zz), .second]) X0 cx P27m4_32 hst (fun ky e_ky => ?_)
      have tk := own_tk ks i (by omega)
      have tl := own_tl ks (i + 1)
      have tl0 := own_tl ks i
      refine r_lload X0 cx P27m4_34 rfl ?_
      refine r_ldc2 X0 cx P27m4_36 (hw.get 14 rfl) ?_
      refine r_lcmp X0 cx P27m4_39 ?_
      refine r_lcmpeq X0 cx P27m4_40 (fun c40 => ?_) (fun c40 => ?_)
      · refine r_iinc (1 : Int32) (fun zz => #[.val (.ref o), .val (.ref ra), .val (.int (Int32.ofNat (own_f (ks.take i)).length)), .val (.ref ak), .val (.int (16 : Int32)), .val (.int zz), .val (.long ky), .second]) X0 cx P27m4_51 rfl rfl (fun _ => rfl) (fun i2 e_i2 => ?_)
        refine r_goto X0 cx P27m4_54 ?_
        rw [e_ky] at c40
        rw [if_pos c40, List.append_nil] at tk
        have ei : i2 = Int32.ofNat (i + 1) := by rw [e_i2]; exact (Int32.ofNat_add _ 1).symm
        subst ei
        rw [← tk] at A_ra ⊢
        exact ih (i + 1) _ _ _ _ (by omega) hsz A_ak A_ra (fun _ => rfl) X0
      · rw [e_ky] at c40
        rw [if_neg c40] at tk
        rw [tk, List.length_append] at tl
        simp only [List.length_cons, List.length_nil] at tl
        refine r_aloadN X0 cx P27m4_43 rfl ?_
        refine r_iloadN X0 cx P27m4_44 rfl ?_
        refine r_lload X0 cx P27m4_45 rfl ?_
        refine r_lastore X0 cx P27m4_47 A_ra ((own_f (ks.take i)).length) rfl (by rw [own_padl (by omega)]; omega) g_ra (fun T1 h1 X1 W1 N1 => ?_)
        replace A_ak := A_ak.other W1 ne_ra_ak.symm
        have A_ra : AJ K.Z h1 ra (own_pad (own_f (ks.take (i + 1))) s) := by rw [tk, ← own_pads (by omega), ← e_ky]; exact N1
        refine r_iinc (1 : Int32) (fun zz => #[.val (.ref o), .val (.ref ra), .val (.int zz), .val (.ref ak), .val (.int (16 : Int32)), .val (.int (Int32.ofNat i)), .val (.long ky), .second]) X1 cx P27m4_48 rfl rfl (fun _ => rfl) (fun nx e_nx => ?_)
        refine r_iinc (1 : Int32) (fun zz => #[.val (.ref o), .val (.ref ra), .val (.int nx), .val (.ref ak), .val (.int (16 : Int32)), .val (.int zz), .val (.long ky), .second]) X1 cx P27m4_51 rfl rfl (fun _ => rfl) (fun i2 e_i2 => ?_)
        refine r_goto X1 cx P27m4_54 ?_
        have en : nx = Int32.ofNat (own_f (ks.take (i + 1))).length := by rw [e_nx, tk, List.length_append]; exact (Int32.ofNat_add _ 1).symm
        subst en
        have ei : i2 = Int32.ofNat (i + 1) := by rw [e_i2]; exact (Int32.ofNat_add _ 1).symm
        subst ei
        exact ih (i + 1) _ _ _ _ (by omega) (by rw [W1.size]; exact hsz) A_ak A_ra (fun _ => rfl) X1
theorem ef_P27m4_0 (m : MethodId) (o : Addr) : entryFrame m #[(.ref o)] 8 = mkF m 0 #[.val (.ref o), .unset, .unset, .unset, .unset, .unset, .unset, .unset] [] := by first | (simp [entryFrame, mkF, argsToLocals, Value.category]; done) | rfl
set_option maxRecDepth 65536 in
set_option maxHeartbeats 40000000 in
theorem con_P27m4_0 (l : Launch) (Z : State) (a0 : Array Value) (hw : Tb tables_1 a0 Z) (o : Addr) (h0 : Heap) (n0 : Nat) (Z0 : n0 ≤ h0.size) (ak ac : Addr) (ks cs : List Int64) (B : LC Z n0 h0 o ak ac ks cs 0) (hl : ks.length = 16) (hs : (own_f ks).length = 0) :
    Con l Z (⟨"com/example/dipper/dipper/model/LongCounts", "keys", "()[J"⟩ : MethodName) prog_27_method_4_code 8 (some (.array .long)) ({ frames := 0, cells := 1, slots := 0, locals := 0 } : Room) #[(.ref o)] h0 n0 (fun u h => h0.size ≤ h.size ∧ ∃ a, u = some (.ref a) ∧ AJ Z h a (own_f ks)) := by
  refine Con.of (plainFor_of_name (by decide +kernel)) Z0 ?_
  intro K hl hZ hn cx T0 X0
  subst hl hZ hn
  refine Run.cast (ef_P27m4_0 K.m o) ?_
  obtain ⟨E_o, F_keys, F_counts, F_size, A_ak, A_ac, ne_o_ak, ne_o_ac, ne_ak_ac, g_o, g_ak, g_ac⟩ := B
  have Kp : Keep h0 h0 [] := Keep.refl _ _
  refine r_aloadN X0 cx P27m4_0 rfl ?_
  refine r_getfield X0 cx P27m4_1 (hw.get 28 rfl) F_size (fun T1 X1 => ?_)
  refine r_newarray X1 cx P27m4_4 (hw.get 13 rfl) (0) 0 rfl (Nat.le_refl _) (by decide) (by decide) (by decide) (fun T2 h2 ra ea2 g_ra X2 Ex2 A2 => ?_)
  have fr_ra : h0.size ≤ ra := fr_new ea2 Kp.1
  replace Kp := Kp.ext Ex2
  have ne_ra_o : ra ≠ o := ne_new ea2 E_o.lt
  have ne_ra_ak : ra ≠ ak := ne_new ea2 A_ak.lt
  have ne_ra_ac : ra ≠ ac := ne_new ea2 A_ac.lt
  replace F_keys := F_keys.ext Ex2
  replace F_counts := F_counts.ext Ex2
  replace F_size := F_size.ext Ex2
  replace E_o := E_o.ext Ex2
  replace A_ak := A_ak.ext Ex2
  replace A_ac := A_ac.ext Ex2
  have A_ra : AJ K.Z h2 ra [] := AJ.new A2
  refine r_astoreN #[.val (.ref o), .val (.ref ra), .unset, .unset, .unset, .unset, .unset, .unset] X2 cx P27m4_6 rfl ?_
  refine r_iconst (0) X2 cx P27m4_7 rfl ?_
  refine r_istoreN (fun zz => #[.val (.ref o), .val (.ref ra), .val (.int zz), .unset, .unset, .unset, .unset, .unset]) X2 cx P27m4_8 (fun _ => rfl) (fun i3 e_i3 => ?_)
  subst e_i3
  refine r_aloadN X2 cx P27m4_9 rfl ?_
  refine r_getfield X2 cx P27m4_10 (hw.get 19 rfl) F_keys (fun T4 X4 => ?_)
  refine r_astoreN #[.val (.ref o), .val (.ref ra), .val (.int (0 : Int32)), .val (.ref ak), .unset, .unset, .unset, .unset] X4 cx P27m4_13 rfl ?_
  refine r_aloadN X4 cx P27m4_14 rfl ?_
  refine r_alenJ X4 cx P27m4_15 A_ak (16) hl ?_
  refine r_istore (fun zz => #[.val (.ref o), .val (.ref ra), .val (.int (0 : Int32)), .val (.ref ak), .val (.int zz), .unset, .unset, .unset]) X4 cx P27m4_16 (fun _ => rfl) (fun i5 e_i5 => ?_)
  subst e_i5
  refine r_iconst (0) X4 cx P27m4_18 rfl ?_
  refine r_istore (fun zz => #[.val (.ref o), .val (.ref ra), .val (.int (0 : Int32)), .val (.ref ak), .val (.int (16 : Int32)), .val (.int zz), .unset, .unset]) X4 cx P27m4_19 (fun _ => rfl) (fun i6 e_i6 => ?_)
  subst e_i6
  exact own_kloop (s := 0) cx hw o ra ak h0 ks hl hs (by decide) g_ra ne_ra_ak 16 0 .unset .unset _ _ (by decide) Kp.1 A_ak A_ra (fun _ => rfl) X4
theorem ef_P27m4_1 (m : MethodId) (o : Addr) : entryFrame m #[(.ref o)] 8 = mkF m 0 #[.val (.ref o), .unset, .unset, .unset, .unset, .unset, .unset, .unset] [] := by first | (simp [entryFrame, mkF, argsToLocals, Value.category]; done) | rfl
set_option maxRecDepth 65536 in
set_option maxHeartbeats 40000000 in
theorem con_P27m4_1 (l : Launch) (Z : State) (a0 : Array Value) (hw : Tb tables_1 a0 Z) (o : Addr) (h0 : Heap) (n0 : Nat) (Z0 : n0 ≤ h0.size) (ak ac : Addr) (ks cs : List Int64) (B : LC Z n0 h0 o ak ac ks cs 1) (hl : ks.length = 16) (hs : (own_f ks).length = 1) :
    Con l Z (⟨"com/example/dipper/dipper/model/LongCounts", "keys", "()[J"⟩ : MethodName) prog_27_method_4_code 8 (some (.array .long)) ({ frames := 0, cells := 1, slots := 1, locals := 0 } : Room) #[(.ref o)] h0 n0 (fun u h => h0.size ≤ h.size ∧ ∃ a, u = some (.ref a) ∧ AJ Z h a (own_f ks)) := by
  refine Con.of (plainFor_of_name (by decide +kernel)) Z0 ?_
  intro K hl hZ hn cx T0 X0
  subst hl hZ hn
  refine Run.cast (ef_P27m4_1 K.m o) ?_
  obtain ⟨E_o, F_keys, F_counts, F_size, A_ak, A_ac, ne_o_ak, ne_o_ac, ne_ak_ac, g_o, g_ak, g_ac⟩ := B
  have Kp : Keep h0 h0 [] := Keep.refl _ _
  refine r_aloadN X0 cx P27m4_0 rfl ?_
  refine r_getfield X0 cx P27m4_1 (hw.get 28 rfl) F_size (fun T1 X1 => ?_)
  refine r_newarray X1 cx P27m4_4 (hw.get 13 rfl) (1) 1 rfl (Nat.le_refl _) (by decide) (by decide) (by decide) (fun T2 h2 ra ea2 g_ra X2 Ex2 A2 => ?_)
  have fr_ra : h0.size ≤ ra := fr_new ea2 Kp.1
  replace Kp := Kp.ext Ex2
  have ne_ra_o : ra ≠ o := ne_new ea2 E_o.lt
  have ne_ra_ak : ra ≠ ak := ne_new ea2 A_ak.lt
  have ne_ra_ac : ra ≠ ac := ne_new ea2 A_ac.lt
  replace F_keys := F_keys.ext Ex2
  replace F_counts := F_counts.ext Ex2
  replace F_size := F_size.ext Ex2
  replace E_o := E_o.ext Ex2
  replace A_ak := A_ak.ext Ex2
  replace A_ac := A_ac.ext Ex2
  have A_ra : AJ K.Z h2 ra [0] := AJ.new A2
  refine r_astoreN #[.val (.ref o), .val (.ref ra), .unset, .unset, .unset, .unset, .unset, .unset] X2 cx P27m4_6 rfl ?_
  refine r_iconst (0) X2 cx P27m4_7 rfl ?_
  refine r_istoreN (fun zz => #[.val (.ref o), .val (.ref ra), .val (.int zz), .unset, .unset, .unset, .unset, .unset]) X2 cx P27m4_8 (fun _ => rfl) (fun i3 e_i3 => ?_)
  subst e_i3
  refine r_aloadN X2 cx P27m4_9 rfl ?_
  refine r_getfield X2 cx P27m4_10 (hw.get 19 rfl) F_keys (fun T4 X4 => ?_)
  refine r_astoreN #[.val (.ref o), .val (.ref ra), .val (.int (0 : Int32)), .val (.ref ak), .unset, .unset, .unset, .unset] X4 cx P27m4_13 rfl ?_
  refine r_aloadN X4 cx P27m4_14 rfl ?_
  refine r_alenJ X4 cx P27m4_15 A_ak (16) hl ?_
  refine r_istore (fun zz => #[.val (.ref o), .val (.ref ra), .val (.int (0 : Int32)), .val (.ref ak), .val (.int zz), .unset, .unset, .unset]) X4 cx P27m4_16 (fun _ => rfl) (fun i5 e_i5 => ?_)
  subst e_i5
  refine r_iconst (0) X4 cx P27m4_18 rfl ?_
  refine r_istore (fun zz => #[.val (.ref o), .val (.ref ra), .val (.int (0 : Int32)), .val (.ref ak), .val (.int (16 : Int32)), .val (.int zz), .unset, .unset]) X4 cx P27m4_19 (fun _ => rfl) (fun i6 e_i6 => ?_)
  subst e_i6
  exact own_kloop (s := 1) cx hw o ra ak h0 ks hl hs (by decide) g_ra ne_ra_ak 16 0 .unset .unset _ _ (by decide) Kp.1 A_ak A_ra (fun _ => rfl) X4
theorem ef_P27m4_2 (m : MethodId) (o : Addr) : entryFrame m #[(.ref o)] 8 = mkF m 0 #[.val (.ref o), .unset, .unset, .unset, .unset, .unset, .unset, .unset] [] := by first | (simp [entryFrame, mkF, argsToLocals, Value.category]; done) | rfl
set_option maxRecDepth 65536 in
set_option maxHeartbeats 40000000 in
theorem con_P27m4_2 (l : Launch) (Z : State) (a0 : Array Value) (hw : Tb tables_1 a0 Z) (o : Addr) (h0 : Heap) (n0 : Nat) (Z0 : n0 ≤ h0.size) (ak ac : Addr) (ks cs : List Int64) (B : LC Z n0 h0 o ak ac ks cs 2) (hl : ks.length = 16) (hs : (own_f ks).length = 2) :
    Con l Z (⟨"com/example/dipper/dipper/model/LongCounts", "keys", "()[J"⟩ : MethodName) prog_27_method_4_code 8 (some (.array .long)) ({ frames := 0, cells := 1, slots := 2, locals := 0 } : Room) #[(.ref o)] h0 n0 (fun u h => h0.size ≤ h.size ∧ ∃ a, u = some (.ref a) ∧ AJ Z h a (own_f ks)) := by
  refine Con.of (plainFor_of_name (by decide +kernel)) Z0 ?_
  intro K hl hZ hn cx T0 X0
  subst hl hZ hn
  refine Run.cast (ef_P27m4_2 K.m o) ?_
  obtain ⟨E_o, F_keys, F_counts, F_size, A_ak, A_ac, ne_o_ak, ne_o_ac, ne_ak_ac, g_o, g_ak, g_ac⟩ := B
  have Kp : Keep h0 h0 [] := Keep.refl _ _
  refine r_aloadN X0 cx P27m4_0 rfl ?_
  refine r_getfield X0 cx P27m4_1 (hw.get 28 rfl) F_size (fun T1 X1 => ?_)
  refine r_newarray X1 cx P27m4_4 (hw.get 13 rfl) (2) 2 rfl (Nat.le_refl _) (by decide) (by decide) (by decide) (fun T2 h2 ra ea2 g_ra X2 Ex2 A2 => ?_)
  have fr_ra : h0.size ≤ ra := fr_new ea2 Kp.1
  replace Kp := Kp.ext Ex2
  have ne_ra_o : ra ≠ o := ne_new ea2 E_o.lt
  have ne_ra_ak : ra ≠ ak := ne_new ea2 A_ak.lt
  have ne_ra_ac : ra ≠ ac := ne_new ea2 A_ac.lt
  replace F_keys := F_keys.ext Ex2
  replace F_counts := F_counts.ext Ex2
  replace F_size := F_size.ext Ex2
  replace E_o := E_o.ext Ex2
  replace A_ak := A_ak.ext Ex2
  replace A_ac := A_ac.ext Ex2
  have A_ra : AJ K.Z h2 ra [0, 0] := AJ.new A2
  refine r_astoreN #[.val (.ref o), .val (.ref ra), .unset, .unset, .unset, .unset, .unset, .unset] X2 cx P27m4_6 rfl ?_
  refine r_iconst (0) X2 cx P27m4_7 rfl ?_
  refine r_istoreN (fun zz => #[.val (.ref o), .val (.ref ra), .val (.int zz), .unset, .unset, .unset, .unset, .unset]) X2 cx P27m4_8 (fun _ => rfl) (fun i3 e_i3 => ?_)
  subst e_i3
  refine r_aloadN X2 cx P27m4_9 rfl ?_
  refine r_getfield X2 cx P27m4_10 (hw.get 19 rfl) F_keys (fun T4 X4 => ?_)
  refine r_astoreN #[.val (.ref o), .val (.ref ra), .val (.int (0 : Int32)), .val (.ref ak), .unset, .unset, .unset, .unset] X4 cx P27m4_13 rfl ?_
  refine r_aloadN X4 cx P27m4_14 rfl ?_
  refine r_alenJ X4 cx P27m4_15 A_ak (16) hl ?_
  refine r_istore (fun zz => #[.val (.ref o), .val (.ref ra), .val (.int (0 : Int32)), .val (.ref ak), .val (.int zz), .unset, .unset, .unset]) X4 cx P27m4_16 (fun _ => rfl) (fun i5 e_i5 => ?_)
  subst e_i5
  refine r_iconst (0) X4 cx P27m4_18 rfl ?_
  refine r_istore (fun zz => #[.val (.ref o), .val (.ref ra), .val (.int (0 : Int32)), .val (.ref ak), .val (.int (16 : Int32)), .val (.int zz), .unset, .unset]) X4 cx P27m4_19 (fun _ => rfl) (fun i6 e_i6 => ?_)
  subst e_i6
  exact own_kloop (s := 2) cx hw o ra ak h0 ks hl hs (by decide) g_ra ne_ra_ak 16 0 .unset .unset _ _ (by decide) Kp.1 A_ak A_ra (fun _ => rfl) X4
theorem ef_P27m4_3 (m : MethodId) (o : Addr) : entryFrame m #[(.ref o)] 8 = mkF m 0 #[.val (.ref o), .unset, .unset, .unset, .unset, .unset, .unset, .unset] [] := by first | (simp [entryFrame, mkF, argsToLocals, Value.category]; done) | rfl
set_option maxRecDepth 65536 in
set_option maxHeartbeats 40000000 in
theorem con_P27m4_3 (l : Launch) (Z : State) (a0 : Array Value) (hw : Tb tables_1 a0 Z) (o : Addr) (h0 : Heap) (n0 : Nat) (Z0 : n0 ≤ h0.size) (ak ac : Addr) (ks cs : List Int64) (B : LC Z n0 h0 o ak ac ks cs 3) (hl : ks.length = 16) (hs : (own_f ks).length = 3) :
    Con l Z (⟨"com/example/dipper/dipper/model/LongCounts", "keys", "()[J"⟩ : MethodName) prog_27_method_4_code 8 (some (.array .long)) ({ frames := 0, cells := 1, slots := 3, locals := 0 } : Room) #[(.ref o)] h0 n0 (fun u h => h0.size ≤ h.size ∧ ∃ a, u = some (.ref a) ∧ AJ Z h a (own_f ks)) := by
  refine Con.of (plainFor_of_name (by decide +kernel)) Z0 ?_
  intro K hl hZ hn cx T0 X0
  subst hl hZ hn
  refine Run.cast (ef_P27m4_3 K.m o) ?_
  obtain ⟨E_o, F_keys, F_counts, F_size, A_ak, A_ac, ne_o_ak, ne_o_ac, ne_ak_ac, g_o, g_ak, g_ac⟩ := B
  have Kp : Keep h0 h0 [] := Keep.refl _ _
  refine r_aloadN X0 cx P27m4_0 rfl ?_
  refine r_getfield X0 cx P27m4_1 (hw.get 28 rfl) F_size (fun T1 X1 => ?_)
  refine r_newarray X1 cx P27m4_4 (hw.get 13 rfl) (3) 3 rfl (Nat.le_refl _) (by decide) (by decide) (by decide) (fun T2 h2 ra ea2 g_ra X2 Ex2 A2 => ?_)
  have fr_ra : h0.size ≤ ra := fr_new ea2 Kp.1
  replace Kp := Kp.ext Ex2
  have ne_ra_o : ra ≠ o := ne_new ea2 E_o.lt
  have ne_ra_ak : ra ≠ ak := ne_new ea2 A_ak.lt
  have ne_ra_ac : ra ≠ ac := ne_new ea2 A_ac.lt
  replace F_keys := F_keys.ext Ex2
  replace F_counts := F_counts.ext Ex2
  replace F_size := F_size.ext Ex2
  replace E_o := E_o.ext Ex2
  replace A_ak := A_ak.ext Ex2
  replace A_ac := A_ac.ext Ex2
  have A_ra : AJ K.Z h2 ra [0, 0, 0] := AJ.new A2
  refine r_astoreN #[.val (.ref o), .val (.ref ra), .unset, .unset, .unset, .unset, .unset, .unset] X2 cx P27m4_6 rfl ?_
  refine r_iconst (0) X2 cx P27m4_7 rfl ?_
  refine r_istoreN (fun zz => #[.val (.ref o), .val (.ref ra), .val (.int zz), .unset, .unset, .unset, .unset, .unset]) X2 cx P27m4_8 (fun _ => rfl) (fun i3 e_i3 => ?_)
  subst e_i3
  refine r_aloadN X2 cx P27m4_9 rfl ?_
  refine r_getfield X2 cx P27m4_10 (hw.get 19 rfl) F_keys (fun T4 X4 => ?_)
  refine r_astoreN #[.val (.ref o), .val (.ref ra), .val (.int (0 : Int32)), .val (.ref ak), .unset, .unset, .unset, .unset] X4 cx P27m4_13 rfl ?_
  refine r_aloadN X4 cx P27m4_14 rfl ?_
  refine r_alenJ X4 cx P27m4_15 A_ak (16) hl ?_
  refine r_istore (fun zz => #[.val (.ref o), .val (.ref ra), .val (.int (0 : Int32)), .val (.ref ak), .val (.int zz), .unset, .unset, .unset]) X4 cx P27m4_16 (fun _ => rfl) (fun i5 e_i5 => ?_)
  subst e_i5
  refine r_iconst (0) X4 cx P27m4_18 rfl ?_
  refine r_istore (fun zz => #[.val (.ref o), .val (.ref ra), .val (.int (0 : Int32)), .val (.ref ak), .val (.int (16 : Int32)), .val (.int zz), .unset, .unset]) X4 cx P27m4_19 (fun _ => rfl) (fun i6 e_i6 => ?_)
  subst e_i6
  exact own_kloop (s := 3) cx hw o ra ak h0 ks hl hs (by decide) g_ra ne_ra_ak 16 0 .unset .unset _ _ (by decide) Kp.1 A_ak A_ra (fun _ => rfl) X4
theorem H3_0 : Dc method_3_code 0 (.aload_n 0) 1 1 := ⟨(by decide +kernel), rfl⟩
theorem H3_1 : Dc method_3_code 1 (.arraylength) 1 2 := ⟨(by decide +kernel), rfl⟩
theorem H3_2 : Db method_3_code 2 (.ifCond .le 13) (13) 5 15 := ⟨(by decide +kernel), rfl, by decide, by decide⟩
theorem H3_5 : Dc method_3_code 5 (.aload_n 0) 1 6 := ⟨(by decide +kernel), rfl⟩
theorem H3_6 : Dc method_3_code 6 (.iconst 0) 1 7 := ⟨(by decide +kernel), rfl⟩
theorem H3_7 : Dc method_3_code 7 (.laload) 1 8 := ⟨(by decide +kernel), rfl⟩
theorem H3_8 : Dc method_3_code 8 (.lload_n 1) 1 9 := ⟨(by decide +kernel), rfl⟩
theorem H3_9 : Dc method_3_code 9 (.lcmp) 1 10 := ⟨(by decide +kernel), rfl⟩
theorem H3_10 : Db method_3_code 10 (.ifCond .ne 5) (5) 13 15 := ⟨(by decide +kernel), rfl, by decide, by decide⟩
theorem H3_13 : Dc method_3_code 13 (.iconst 1) 1 14 := ⟨(by decide +kernel), rfl⟩
theorem H3_14 : Dc method_3_code 14 (.ireturn) 1 15 := ⟨(by decide +kernel), rfl⟩
theorem H3_15 : Dc method_3_code 15 (.aload_n 0) 1 16 := ⟨(by decide +kernel), rfl⟩
theorem H3_16 : Dc method_3_code 16 (.arraylength) 1 17 := ⟨(by decide +kernel), rfl⟩
theorem H3_17 : Dc method_3_code 17 (.iconst 1) 1 18 := ⟨(by decide +kernel), rfl⟩
theorem H3_18 : Db method_3_code 18 (.if_icmp .le 13) (13) 21 31 := ⟨(by decide +kernel), rfl, by decide, by decide⟩
theorem H3_21 : Dc method_3_code 21 (.aload_n 0) 1 22 := ⟨(by decide +kernel), rfl⟩
theorem H3_22 : Dc method_3_code 22 (.iconst 1) 1 23 := ⟨(by decide +kernel), rfl⟩
theorem H3_23 : Dc method_3_code 23 (.laload) 1 24 := ⟨(by decide +kernel), rfl⟩
theorem H3_24 : Dc method_3_code 24 (.lload_n 1) 1 25 := ⟨(by decide +kernel), rfl⟩
theorem H3_25 : Dc method_3_code 25 (.lcmp) 1 26 := ⟨(by decide +kernel), rfl⟩
theorem H3_26 : Db method_3_code 26 (.ifCond .ne 5) (5) 29 31 := ⟨(by decide +kernel), rfl, by decide, by decide⟩
theorem H3_29 : Dc method_3_code 29 (.iconst 1) 1 30 := ⟨(by decide +kernel), rfl⟩
theorem H3_30 : Dc method_3_code 30 (.ireturn) 1 31 := ⟨(by decide +kernel), rfl⟩
theorem H3_31 : Dc method_3_code 31 (.aload_n 0) 1 32 := ⟨(by decide +kernel), rfl⟩
theorem H3_32 : Dc method_3_code 32 (.arraylength) 1 33 := ⟨(by decide +kernel), rfl⟩
theorem H3_33 : Dc method_3_code 33 (.iconst 2) 1 34 := ⟨(by decide +kernel), rfl⟩
theorem H3_34 : Db method_3_code 34 (.if_icmp .le 13) (13) 37 47 := ⟨(by decide +kernel), rfl, by decide, by decide⟩
theorem H3_37 : Dc method_3_code 37 (.aload_n 0) 1 38 := ⟨(by decide +kernel), rfl⟩
theorem H3_38 : Dc method_3_code 38 (.iconst 2) 1 39 := ⟨(by decide +kernel), rfl⟩
theorem H3_39 : Dc method_3_code 39 (.laload) 1 40 := ⟨(by decide +kernel), rfl⟩
theorem H3_40 : Dc method_3_code 40 (.lload_n 1) 1 41 := ⟨(by decide +kernel), rfl⟩
theorem H3_41 : Dc method_3_code 41 (.lcmp) 1 42 := ⟨(by decide +kernel), rfl⟩
theorem H3_42 : Db method_3_code 42 (.ifCond .ne 5) (5) 45 47 := ⟨(by decide +kernel), rfl, by decide, by decide⟩
theorem H3_45 : Dc method_3_code 45 (.iconst 1) 1 46 := ⟨(by decide +kernel), rfl⟩
theorem H3_46 : Dc method_3_code 46 (.ireturn) 1 47 := ⟨(by decide +kernel), rfl⟩
theorem H3_47 : Dc method_3_code 47 (.iconst 0) 1 48 := ⟨(by decide +kernel), rfl⟩
theorem H3_48 : Dc method_3_code 48 (.ireturn) 1 49 := ⟨(by decide +kernel), rfl⟩
theorem ef_H3 (m : MethodId) (r : Addr) (k : Int64) : entryFrame m #[(.ref r), (.long k)] 3 = mkF m 0 #[.val (.ref r), .val (.long k), .second] [] := by first | (simp [entryFrame, mkF, argsToLocals, Value.category]; done) | rfl
set_option maxRecDepth 65536 in
set_option maxHeartbeats 40000000 in
theorem con_H3 (l : Launch) (Z : State) (a0 : Array Value) (hw : Tb tables_1 a0 Z) (r : Addr) (k : Int64) (h0 : Heap) (n0 : Nat) (Z0 : n0 ≤ h0.size) (rs : List Int64) (A_r : AJ Z h0 r rs) (hl : rs.length ≤ 3) :
    Con l Z (⟨"com/example/dipper/dipper/model/LongCountsKeysPinLaw", "contains", "([JJ)Z"⟩ : MethodName) method_3_code 3 (some (.boolean)) ({ frames := 0, cells := 0, slots := 0, locals := 0 } : Room) #[(.ref r), (.long k)] h0 n0 (fun v h => h0 = h ∧ v = some (.int (if k ∈ rs then 1 else 0))) := by
  refine Con.of (plainFor_of_name (by decide +kernel)) Z0 ?_
  intro K hl hZ hn cx T0 X0
  subst hl hZ hn
  refine Run.cast (ef_H3 K.m r k) ?_
  match rs, hl, A_r with
  | _ :: _ :: _ :: _ :: _, hl, _ => exact absurd hl (by simp)
  | [], _, A_r =>
    refine r_aloadN X0 cx H3_0 rfl ?_
    refine r_alenJ X0 cx H3_1 A_r (0) rfl ?_
    refine r_ifle X0 cx H3_2 (fun _ => ?_) (fun c => absurd c (by decide))
    refine r_aloadN X0 cx H3_15 rfl ?_
    refine r_alenJ X0 cx H3_16 A_r (0) rfl ?_
    refine r_iconst (1) X0 cx H3_17 rfl ?_
    refine r_icmple X0 cx H3_18 (fun _ => ?_) (fun c => absurd c (by decide))
    refine r_aloadN X0 cx H3_31 rfl ?_
    refine r_alenJ X0 cx H3_32 A_r (0) rfl ?_
    refine r_iconst (2) X0 cx H3_33 rfl ?_
    refine r_icmple X0 cx H3_34 (fun _ => ?_) (fun c => absurd c (by decide))
    refine r_iconst (0) X0 cx H3_47 rfl ?_
    refine r_zreturn X0 cx H3_48 (by decide) (by decide) ?_
    refine ⟨rfl, ?_⟩
    rfl
  | [x0], _, A_r =>
    refine r_aloadN X0 cx H3_0 rfl ?_
    refine r_alenJ X0 cx H3_1 A_r (1) rfl ?_
    refine r_ifle X0 cx H3_2 (fun c => absurd c (by decide)) (fun _ => ?_)
    refine r_aloadN X0 cx H3_5 rfl ?_
    refine r_iconst (0) X0 cx H3_6 rfl ?_
    refine r_laload X0 cx H3_7 A_r (0) rfl (v := x0) rfl ?_
    refine r_lloadN X0 cx H3_8 rfl ?_
    refine r_lcmp X0 cx H3_9 ?_
    refine r_lcmpne X0 cx H3_10 (fun c10 => ?_) (fun c10 => ?_)
    · refine r_aloadN X0 cx H3_15 rfl ?_
      refine r_alenJ X0 cx H3_16 A_r (1) rfl ?_
      refine r_iconst (1) X0 cx H3_17 rfl ?_
      refine r_icmple X0 cx H3_18 (fun _ => ?_) (fun c => absurd c (by decide))
      refine r_aloadN X0 cx H3_31 rfl ?_
      refine r_alenJ X0 cx H3_32 A_r (1) rfl ?_
      refine r_iconst (2) X0 cx H3_33 rfl ?_
      refine r_icmple X0 cx H3_34 (fun _ => ?_) (fun c => absurd c (by decide))
      refine r_iconst (0) X0 cx H3_47 rfl ?_
      refine r_zreturn X0 cx H3_48 (by decide) (by decide) ?_
      refine ⟨rfl, ?_⟩
      rw [if_neg (by simp only [List.mem_cons, List.not_mem_nil, or_false]; intro q; rcases q with q <;> first | exact c10 q.symm | exact c26 q.symm | exact c42 q.symm)]; rfl
    · refine r_iconst (1) X0 cx H3_13 rfl ?_
      refine r_zreturn X0 cx H3_14 (by decide) (by decide) ?_
      refine ⟨rfl, ?_⟩
      rw [if_pos (by simp [c10])]; rfl
  | [x0, x1], _, A_r =>
    refine r_aloadN X0 cx H3_0 rfl ?_
    refine r_alenJ X0 cx H3_1 A_r (2) rfl ?_
    refine r_ifle X0 cx H3_2 (fun c => absurd c (by decide)) (fun _ => ?_)
    refine r_aloadN X0 cx H3_5 rfl ?_
    refine r_iconst (0) X0 cx H3_6 rfl ?_
    refine r_laload X0 cx H3_7 A_r (0) rfl (v := x0) rfl ?_
    refine r_lloadN X0 cx H3_8 rfl ?_
    refine r_lcmp X0 cx H3_9 ?_
    refine r_lcmpne X0 cx H3_10 (fun c10 => ?_) (fun c10 => ?_)
    · refine r_aloadN X0 cx H3_15 rfl ?_
      refine r_alenJ X0 cx H3_16 A_r (2) rfl ?_
      refine r_iconst (1) X0 cx H3_17 rfl ?_
      refine r_icmple X0 cx H3_18 (fun c => absurd c (by decide)) (fun _ => ?_)
      refine r_aloadN X0 cx H3_21 rfl ?_
      refine r_iconst (1) X0 cx H3_22 rfl ?_
      refine r_laload X0 cx H3_23 A_r (1) rfl (v := x1) rfl ?_
      refine r_lloadN X0 cx H3_24 rfl ?_
      refine r_lcmp X0 cx H3_25 ?_
      refine r_lcmpne X0 cx H3_26 (fun c26 => ?_) (fun c26 => ?_)
      · refine r_aloadN X0 cx H3_31 rfl ?_
        refine r_alenJ X0 cx H3_32 A_r (2) rfl ?_
        refine r_iconst (2) X0 cx H3_33 rfl ?_
        refine r_icmple X0 cx H3_34 (fun _ => ?_) (fun c => absurd c (by decide))
        refine r_iconst (0) X0 cx H3_47 rfl ?_
        refine r_zreturn X0 cx H3_48 (by decide) (by decide) ?_
        refine ⟨rfl, ?_⟩
        rw [if_neg (by simp only [List.mem_cons, List.not_mem_nil, or_false]; intro q; rcases q with q | q <;> first | exact c10 q.symm | exact c26 q.symm | exact c42 q.symm)]; rfl
      · refine r_iconst (1) X0 cx H3_29 rfl ?_
        refine r_zreturn X0 cx H3_30 (by decide) (by decide) ?_
        refine ⟨rfl, ?_⟩
        rw [if_pos (by simp [c26])]; rfl
    · refine r_iconst (1) X0 cx H3_13 rfl ?_
      refine r_zreturn X0 cx H3_14 (by decide) (by decide) ?_
      refine ⟨rfl, ?_⟩
      rw [if_pos (by simp [c10])]; rfl
  | [x0, x1, x2], _, A_r =>
    refine r_aloadN X0 cx H3_0 rfl ?_
    refine r_alenJ X0 cx H3_1 A_r (3) rfl ?_
    refine r_ifle X0 cx H3_2 (fun c => absurd c (by decide)) (fun _ => ?_)
    refine r_aloadN X0 cx H3_5 rfl ?_
    refine r_iconst (0) X0 cx H3_6 rfl ?_
    refine r_laload X0 cx H3_7 A_r (0) rfl (v := x0) rfl ?_
    refine r_lloadN X0 cx H3_8 rfl ?_
    refine r_lcmp X0 cx H3_9 ?_
    refine r_lcmpne X0 cx H3_10 (fun c10 => ?_) (fun c10 => ?_)
    · refine r_aloadN X0 cx H3_15 rfl ?_
      refine r_alenJ X0 cx H3_16 A_r (3) rfl ?_
      refine r_iconst (1) X0 cx H3_17 rfl ?_
      refine r_icmple X0 cx H3_18 (fun c => absurd c (by decide)) (fun _ => ?_)
      refine r_aloadN X0 cx H3_21 rfl ?_
      refine r_iconst (1) X0 cx H3_22 rfl ?_
      refine r_laload X0 cx H3_23 A_r (1) rfl (v := x1) rfl ?_
      refine r_lloadN X0 cx H3_24 rfl ?_
      refine r_lcmp X0 cx H3_25 ?_
      refine r_lcmpne X0 cx H3_26 (fun c26 => ?_) (fun c26 => ?_)
      · refine r_aloadN X0 cx H3_31 rfl ?_
        refine r_alenJ X0 cx H3_32 A_r (3) rfl ?_
        refine r_iconst (2) X0 cx H3_33 rfl ?_
        refine r_icmple X0 cx H3_34 (fun c => absurd c (by decide)) (fun _ => ?_)
        refine r_aloadN X0 cx H3_37 rfl ?_
        refine r_iconst (2) X0 cx H3_38 rfl ?_
        refine r_laload X0 cx H3_39 A_r (2) rfl (v := x2) rfl ?_
        refine r_lloadN X0 cx H3_40 rfl ?_
        refine r_lcmp X0 cx H3_41 ?_
        refine r_lcmpne X0 cx H3_42 (fun c42 => ?_) (fun c42 => ?_)
        · refine r_iconst (0) X0 cx H3_47 rfl ?_
          refine r_zreturn X0 cx H3_48 (by decide) (by decide) ?_
          refine ⟨rfl, ?_⟩
          rw [if_neg (by simp only [List.mem_cons, List.not_mem_nil, or_false]; intro q; rcases q with q | q | q <;> first | exact c10 q.symm | exact c26 q.symm | exact c42 q.symm)]; rfl
        · refine r_iconst (1) X0 cx H3_45 rfl ?_
          refine r_zreturn X0 cx H3_46 (by decide) (by decide) ?_
          refine ⟨rfl, ?_⟩
          rw [if_pos (by simp [c42])]; rfl
      · refine r_iconst (1) X0 cx H3_29 rfl ?_
        refine r_zreturn X0 cx H3_30 (by decide) (by decide) ?_
        refine ⟨rfl, ?_⟩
        rw [if_pos (by simp [c26])]; rfl
    · refine r_iconst (1) X0 cx H3_13 rfl ?_
      refine r_zreturn X0 cx H3_14 (by decide) (by decide) ?_
      refine ⟨rfl, ?_⟩
      rw [if_pos (by simp [c10])]; rfl
theorem L_0 : Dc code 0 (.lload_n 0) 1 1 := ⟨at_0, rfl⟩
theorem L_1 : Dc code 1 (.ldc2_w 9) 3 4 := ⟨at_1, rfl⟩
theorem L_4 : Dc code 4 (.land) 1 5 := ⟨at_4, rfl⟩
theorem L_5 : Dc code 5 (.lstore 9) 2 7 := ⟨at_5, rfl⟩
theorem L_7 : Dc code 7 (.iload 8) 2 9 := ⟨at_7, rfl⟩
theorem L_9 : Dc code 9 (.iconst 1) 1 10 := ⟨at_9, rfl⟩
theorem L_10 : Dc code 10 (.iand) 1 11 := ⟨at_10, rfl⟩
theorem L_11 : Db code 11 (.ifCond .eq 8) (8) 14 19 := ⟨at_11, rfl, by decide, by decide⟩
theorem L_14 : Dc code 14 (.lload 9) 2 16 := ⟨at_14, rfl⟩
theorem L_16 : Db code 16 (.goto 8) (8) 19 24 := ⟨at_16, rfl, by decide, by decide⟩
theorem L_19 : Dc code 19 (.lload_n 2) 1 20 := ⟨at_19, rfl⟩
theorem L_20 : Dc code 20 (.ldc2_w 9) 3 23 := ⟨at_20, rfl⟩
theorem L_23 : Dc code 23 (.land) 1 24 := ⟨at_23, rfl⟩
theorem L_24 : Dc code 24 (.lstore 11) 2 26 := ⟨at_24, rfl⟩
theorem L_26 : Dc code 26 (.iload 8) 2 28 := ⟨at_26, rfl⟩
theorem L_28 : Dc code 28 (.iconst 2) 1 29 := ⟨at_28, rfl⟩
theorem L_29 : Dc code 29 (.iand) 1 30 := ⟨at_29, rfl⟩
theorem L_30 : Db code 30 (.ifCond .eq 8) (8) 33 38 := ⟨at_30, rfl, by decide, by decide⟩
theorem L_33 : Dc code 33 (.lload 11) 2 35 := ⟨at_33, rfl⟩
theorem L_35 : Db code 35 (.goto 21) (21) 38 56 := ⟨at_35, rfl, by decide, by decide⟩
theorem L_38 : Dc code 38 (.iload 8) 2 40 := ⟨at_38, rfl⟩
theorem L_40 : Dc code 40 (.iconst 4) 1 41 := ⟨at_40, rfl⟩
theorem L_41 : Dc code 41 (.iand) 1 42 := ⟨at_41, rfl⟩
theorem L_42 : Db code 42 (.ifCond .eq 8) (8) 45 50 := ⟨at_42, rfl, by decide, by decide⟩
theorem L_45 : Dc code 45 (.lload 9) 2 47 := ⟨at_45, rfl⟩
theorem L_47 : Db code 47 (.goto 9) (9) 50 56 := ⟨at_47, rfl, by decide, by decide⟩
theorem L_50 : Dc code 50 (.lload 4) 2 52 := ⟨at_50, rfl⟩
theorem L_52 : Dc code 52 (.ldc2_w 9) 3 55 := ⟨at_52, rfl⟩
theorem L_55 : Dc code 55 (.land) 1 56 := ⟨at_55, rfl⟩
theorem L_56 : Dc code 56 (.lstore 13) 2 58 := ⟨at_56, rfl⟩
theorem L_58 : Dc code 58 (.iload 8) 2 60 := ⟨at_58, rfl⟩
theorem L_60 : Dc code 60 (.iconst 3) 1 61 := ⟨at_60, rfl⟩
theorem L_61 : Dc code 61 (.iushr) 1 62 := ⟨at_61, rfl⟩
theorem L_62 : Dc code 62 (.iconst 3) 1 63 := ⟨at_62, rfl⟩
theorem L_63 : Dc code 63 (.iand) 1 64 := ⟨at_63, rfl⟩
theorem L_64 : Dc code 64 (.istore 15) 2 66 := ⟨at_64, rfl⟩
theorem L_66 : Dc code 66 (.new 11) 3 69 := ⟨at_66, rfl⟩
theorem L_69 : Dc code 69 (.dup) 1 70 := ⟨at_69, rfl⟩
theorem L_70 : Dc code 70 (.invokespecial 13) 3 73 := ⟨at_70, rfl⟩
theorem L_73 : Dc code 73 (.astore 16) 2 75 := ⟨at_73, rfl⟩
theorem L_75 : Dc code 75 (.iload 15) 2 77 := ⟨at_75, rfl⟩
theorem L_77 : Dc code 77 (.iconst 1) 1 78 := ⟨at_77, rfl⟩
theorem L_78 : Db code 78 (.if_icmp .lt 12) (12) 81 90 := ⟨at_78, rfl, by decide, by decide⟩
theorem L_81 : Dc code 81 (.aload 16) 2 83 := ⟨at_81, rfl⟩
theorem L_83 : Dc code 83 (.lload 9) 2 85 := ⟨at_83, rfl⟩
theorem L_85 : Dc code 85 (.lload 6) 2 87 := ⟨at_85, rfl⟩
theorem L_87 : Dc code 87 (.invokevirtual 14) 3 90 := ⟨at_87, rfl⟩
theorem L_90 : Dc code 90 (.iload 15) 2 92 := ⟨at_90, rfl⟩
theorem L_92 : Dc code 92 (.iconst 2) 1 93 := ⟨at_92, rfl⟩
theorem L_93 : Db code 93 (.if_icmp .lt 12) (12) 96 105 := ⟨at_93, rfl, by decide, by decide⟩
theorem L_96 : Dc code 96 (.aload 16) 2 98 := ⟨at_96, rfl⟩
theorem L_98 : Dc code 98 (.lload 11) 2 100 := ⟨at_98, rfl⟩
theorem L_100 : Dc code 100 (.lload 6) 2 102 := ⟨at_100, rfl⟩
theorem L_102 : Dc code 102 (.invokevirtual 14) 3 105 := ⟨at_102, rfl⟩
theorem L_105 : Dc code 105 (.iload 15) 2 107 := ⟨at_105, rfl⟩
theorem L_107 : Dc code 107 (.iconst 3) 1 108 := ⟨at_107, rfl⟩
theorem L_108 : Db code 108 (.if_icmp .lt 12) (12) 111 120 := ⟨at_108, rfl, by decide, by decide⟩
theorem L_111 : Dc code 111 (.aload 16) 2 113 := ⟨at_111, rfl⟩
theorem L_113 : Dc code 113 (.lload 13) 2 115 := ⟨at_113, rfl⟩
theorem L_115 : Dc code 115 (.lload 6) 2 117 := ⟨at_115, rfl⟩
theorem L_117 : Dc code 117 (.invokevirtual 14) 3 120 := ⟨at_117, rfl⟩
theorem L_120 : Dc code 120 (.aload 16) 2 122 := ⟨at_120, rfl⟩
theorem L_122 : Dc code 122 (.invokevirtual 18) 3 125 := ⟨at_122, rfl⟩
theorem L_125 : Dc code 125 (.astore 17) 2 127 := ⟨at_125, rfl⟩
theorem L_127 : Dc code 127 (.iload 15) 2 129 := ⟨at_127, rfl⟩
theorem L_129 : Db code 129 (.ifCond .ne 9) (9) 132 138 := ⟨at_129, rfl, by decide, by decide⟩
theorem L_132 : Dc code 132 (.iconst 0) 1 133 := ⟨at_132, rfl⟩
theorem L_133 : Dc code 133 (.istore 18) 2 135 := ⟨at_133, rfl⟩
theorem L_135 : Db code 135 (.goto 58) (58) 138 193 := ⟨at_135, rfl, by decide, by decide⟩
theorem L_138 : Dc code 138 (.iload 15) 2 140 := ⟨at_138, rfl⟩
theorem L_140 : Dc code 140 (.iconst 1) 1 141 := ⟨at_140, rfl⟩
theorem L_141 : Db code 141 (.if_icmp .ne 9) (9) 144 150 := ⟨at_141, rfl, by decide, by decide⟩
theorem L_144 : Dc code 144 (.iconst 1) 1 145 := ⟨at_144, rfl⟩
theorem L_145 : Dc code 145 (.istore 18) 2 147 := ⟨at_145, rfl⟩
theorem L_147 : Db code 147 (.goto 46) (46) 150 193 := ⟨at_147, rfl, by decide, by decide⟩
theorem L_150 : Dc code 150 (.lload 11) 2 152 := ⟨at_150, rfl⟩
theorem L_152 : Dc code 152 (.lload 9) 2 154 := ⟨at_152, rfl⟩
theorem L_154 : Dc code 154 (.lcmp) 1 155 := ⟨at_154, rfl⟩
theorem L_155 : Db code 155 (.ifCond .ne 7) (7) 158 162 := ⟨at_155, rfl, by decide, by decide⟩
theorem L_158 : Dc code 158 (.iconst 1) 1 159 := ⟨at_158, rfl⟩
theorem L_159 : Db code 159 (.goto 4) (4) 162 163 := ⟨at_159, rfl, by decide, by decide⟩
theorem L_162 : Dc code 162 (.iconst 2) 1 163 := ⟨at_162, rfl⟩
theorem L_163 : Dc code 163 (.istore 18) 2 165 := ⟨at_163, rfl⟩
theorem L_165 : Dc code 165 (.iload 15) 2 167 := ⟨at_165, rfl⟩
theorem L_167 : Dc code 167 (.iconst 3) 1 168 := ⟨at_167, rfl⟩
theorem L_168 : Db code 168 (.if_icmp .ne 25) (25) 171 193 := ⟨at_168, rfl, by decide, by decide⟩
theorem L_171 : Dc code 171 (.lload 13) 2 173 := ⟨at_171, rfl⟩
theorem L_173 : Dc code 173 (.lload 9) 2 175 := ⟨at_173, rfl⟩
theorem L_175 : Dc code 175 (.lcmp) 1 176 := ⟨at_175, rfl⟩
theorem L_176 : Db code 176 (.ifCond .eq 17) (17) 179 193 := ⟨at_176, rfl, by decide, by decide⟩
theorem L_179 : Dc code 179 (.lload 13) 2 181 := ⟨at_179, rfl⟩
theorem L_181 : Dc code 181 (.lload 11) 2 183 := ⟨at_181, rfl⟩
theorem L_183 : Dc code 183 (.lcmp) 1 184 := ⟨at_183, rfl⟩
theorem L_184 : Db code 184 (.ifCond .eq 9) (9) 187 193 := ⟨at_184, rfl, by decide, by decide⟩
theorem L_187 : Dc code 187 (.iload 18) 2 189 := ⟨at_187, rfl⟩
theorem L_189 : Dc code 189 (.iconst 1) 1 190 := ⟨at_189, rfl⟩
theorem L_190 : Dc code 190 (.iadd) 1 191 := ⟨at_190, rfl⟩
theorem L_191 : Dc code 191 (.istore 18) 2 193 := ⟨at_191, rfl⟩
theorem L_193 : Dc code 193 (.aload 17) 2 195 := ⟨at_193, rfl⟩
theorem L_195 : Dc code 195 (.arraylength) 1 196 := ⟨at_195, rfl⟩
theorem L_196 : Dc code 196 (.iload 18) 2 198 := ⟨at_196, rfl⟩
theorem L_198 : Db code 198 (.if_icmp .eq 5) (5) 201 203 := ⟨at_198, rfl, by decide, by decide⟩
theorem L_201 : Dc code 201 (.iconst 0) 1 202 := ⟨at_201, rfl⟩
theorem L_202 : Dc code 202 (.ireturn) 1 203 := ⟨at_202, rfl⟩
theorem L_203 : Dc code 203 (.iconst 1) 1 204 := ⟨at_203, rfl⟩
theorem L_204 : Dc code 204 (.istore 19) 2 206 := ⟨at_204, rfl⟩
theorem L_206 : Dc code 206 (.iload 15) 2 208 := ⟨at_206, rfl⟩
theorem L_208 : Dc code 208 (.iconst 1) 1 209 := ⟨at_208, rfl⟩
theorem L_209 : Db code 209 (.if_icmp .lt 16) (16) 212 225 := ⟨at_209, rfl, by decide, by decide⟩
theorem L_212 : Dc code 212 (.aload 17) 2 214 := ⟨at_212, rfl⟩
theorem L_214 : Dc code 214 (.lload 9) 2 216 := ⟨at_214, rfl⟩
theorem L_216 : Dc code 216 (.invokestatic 22) 3 219 := ⟨at_216, rfl⟩
theorem L_219 : Db code 219 (.ifCond .ne 6) (6) 222 225 := ⟨at_219, rfl, by decide, by decide⟩
theorem L_222 : Dc code 222 (.iconst 0) 1 223 := ⟨at_222, rfl⟩
theorem L_223 : Dc code 223 (.istore 19) 2 225 := ⟨at_223, rfl⟩
theorem L_225 : Dc code 225 (.iload 15) 2 227 := ⟨at_225, rfl⟩
theorem L_227 : Dc code 227 (.iconst 2) 1 228 := ⟨at_227, rfl⟩
theorem L_228 : Db code 228 (.if_icmp .lt 16) (16) 231 244 := ⟨at_228, rfl, by decide, by decide⟩
theorem L_231 : Dc code 231 (.aload 17) 2 233 := ⟨at_231, rfl⟩
theorem L_233 : Dc code 233 (.lload 11) 2 235 := ⟨at_233, rfl⟩
theorem L_235 : Dc code 235 (.invokestatic 22) 3 238 := ⟨at_235, rfl⟩
theorem L_238 : Db code 238 (.ifCond .ne 6) (6) 241 244 := ⟨at_238, rfl, by decide, by decide⟩
theorem L_241 : Dc code 241 (.iconst 0) 1 242 := ⟨at_241, rfl⟩
theorem L_242 : Dc code 242 (.istore 19) 2 244 := ⟨at_242, rfl⟩
theorem L_244 : Dc code 244 (.iload 15) 2 246 := ⟨at_244, rfl⟩
theorem L_246 : Dc code 246 (.iconst 3) 1 247 := ⟨at_246, rfl⟩
theorem L_247 : Db code 247 (.if_icmp .lt 16) (16) 250 263 := ⟨at_247, rfl, by decide, by decide⟩
theorem L_250 : Dc code 250 (.aload 17) 2 252 := ⟨at_250, rfl⟩
theorem L_252 : Dc code 252 (.lload 13) 2 254 := ⟨at_252, rfl⟩
theorem L_254 : Dc code 254 (.invokestatic 22) 3 257 := ⟨at_254, rfl⟩
theorem L_257 : Db code 257 (.ifCond .ne 6) (6) 260 263 := ⟨at_257, rfl, by decide, by decide⟩
theorem L_260 : Dc code 260 (.iconst 0) 1 261 := ⟨at_260, rfl⟩
theorem L_261 : Dc code 261 (.istore 19) 2 263 := ⟨at_261, rfl⟩
theorem L_263 : Dc code 263 (.iload 19) 2 265 := ⟨at_263, rfl⟩
theorem L_265 : Dc code 265 (.ireturn) 1 266 := ⟨at_265, rfl⟩
theorem own_m3 (x : Int32) : x &&& 3 = 0 ∨ x &&& 3 = 1 ∨ x &&& 3 = 2 ∨ x &&& 3 = 3 := by
  have h : (x &&& 3).toBitVec.toNat ≤ 3 := by
    simp only [Int32.toBitVec_and, BitVec.toNat_and]; exact Nat.and_le_right
  have e : (x &&& 3) = Int32.ofNat (x &&& 3).toBitVec.toNat := by
    apply Int32.toBitVec_inj.mp
    show _ = BitVec.ofNat 32 _
    rw [BitVec.ofNat_toNat]; simp
  rw [e]
  generalize (x &&& 3).toBitVec.toNat = n at h
  have : n = 0 ∨ n = 1 ∨ n = 2 ∨ n = 3 := by omega
  rcases this with rfl | rfl | rfl | rfl <;> decide
theorem ef_L (m : MethodId) (i0 : Int64) (i1 : Int64) (i2 : Int64) (i3 : Int64) (i4 : Int32) : entryFrame m #[(.long i0), (.long i1), (.long i2), (.long i3), (.int i4)] maxLocals = mkF m 0 #[.val (.long i0), .second, .val (.long i1), .second, .val (.long i2), .second, .val (.long i3), .second, .val (.int i4), .unset, .unset, .unset, .unset, .unset, .unset, .unset, .unset, .unset, .unset, .unset] [] := by first | (simp [entryFrame, mkF, argsToLocals, Value.category, maxLocals]; done) | rfl
set_option maxRecDepth 65536 in
set_option maxHeartbeats 40000000 in
theorem con_L (l : Launch) (Z : State) (a0 : Array Value) (hw : Tb tables_1 a0 Z) (i0 : Int64) (i1 : Int64) (i2 : Int64) (i3 : Int64) (i4 : Int32) (h0 : Heap) (n0 : Nat) (Z0 : n0 ≤ h0.size)  :
    Con l Z x code maxLocals ret room_1 #[(.long i0), (.long i1), (.long i2), (.long i3), (.int i4)] h0 n0 (fun v _ => v = some (.int 1)) := by
  refine Con.of (plainFor_of_name (by decide +kernel)) Z0 ?_
  intro K hl hZ hn cx T0 X0
  subst hl hZ hn
  refine Run.cast (ef_L K.m i0 i1 i2 i3 i4) ?_
  refine r_lloadN X0 cx L_0 rfl ?_
  refine r_ldc2 X0 cx L_1 (hw.get 0 rfl) ?_
  refine r_land X0 cx L_4 ?_
  refine r_lstore (fun zz => #[.val (.long i0), .second, .val (.long i1), .second, .val (.long i2), .second, .val (.long i3), .second, .val (.int i4), .val (.long zz), .second, .unset, .unset, .unset, .unset, .unset, .unset, .unset, .unset, .unset]) X0 cx L_5 (fun _ => rfl) (fun k0 e_k0 => ?_)
  have hk0 : k0 ≠ -1 := by rw [e_k0]; exact own_max _
  have kj24 : (∀ v : Int64, (v ≠ -1) → Run K (fun v _ => v = some (.int 1)) T0 (mkF K.m 24 #[.val (.long i0), .second, .val (.long i1), .second, .val (.long i2), .second, .val (.long i3), .second, .val (.int i4), .val (.long k0), .second, .unset, .unset, .unset, .unset, .unset, .unset, .unset, .unset, .unset] (.long v :: []))) → Run K (fun v _ => v = some (.int 1)) T0 (mkF K.m 7 #[.val (.long i0), .second, .val (.long i1), .second, .val (.long i2), .second, .val (.long i3), .second, .val (.int i4), .val (.long k0), .second, .unset, .unset, .unset, .unset, .unset, .unset, .unset, .unset, .unset] []) := by
    intro kj
    refine r_iload X0 cx L_7 rfl ?_
    refine r_iconst (1) X0 cx L_9 rfl ?_
    refine r_iand X0 cx L_10 ?_
    refine r_ifeq X0 cx L_11 (fun c11 => ?_) (fun c11 => ?_)
    · refine r_lloadN X0 cx L_19 rfl ?_
      refine r_ldc2 X0 cx L_20 (hw.get 0 rfl) ?_
      refine r_land X0 cx L_23 ?_
      exact kj _ (own_max _)
    · refine r_lload X0 cx L_14 rfl ?_
      refine r_goto X0 cx L_16 ?_
      exact kj _ hk0
  refine kj24 (fun k1 p_k1 => ?_)
  refine r_lstore (fun zz => #[.val (.long i0), .second, .val (.long i1), .second, .val (.long i2), .second, .val (.long i3), .second, .val (.int i4), .val (.long k0), .second, .val (.long zz), .second, .unset, .unset, .unset, .unset, .unset, .unset, .unset]) X0 cx L_24 (fun _ => rfl) (fun k1s e_k1s => ?_)
  replace e_k1s := e_k1s.symm
  subst e_k1s
  have kj56 : (∀ v : Int64, (v ≠ -1) → Run K (fun v _ => v = some (.int 1)) T0 (mkF K.m 56 #[.val (.long i0), .second, .val (.long i1), .second, .val (.long i2), .second, .val (.long i3), .second, .val (.int i4), .val (.long k0), .second, .val (.long k1), .second, .unset, .unset, .unset, .unset, .unset, .unset, .unset] (.long v :: []))) → Run K (fun v _ => v = some (.int 1)) T0 (mkF K.m 26 #[.val (.long i0), .second, .val (.long i1), .second, .val (.long i2), .second, .val (.long i3), .second, .val (.int i4), .val (.long k0), .second, .val (.long k1), .second, .unset, .unset, .unset, .unset, .unset, .unset, .unset] []) := by
    intro kj
    refine r_iload X0 cx L_26 rfl ?_
    refine r_iconst (2) X0 cx L_28 rfl ?_
    refine r_iand X0 cx L_29 ?_
    refine r_ifeq X0 cx L_30 (fun c30 => ?_) (fun c30 => ?_)
    · refine r_iload X0 cx L_38 rfl ?_
      refine r_iconst (4) X0 cx L_40 rfl ?_
      refine r_iand X0 cx L_41 ?_
      refine r_ifeq X0 cx L_42 (fun c42 => ?_) (fun c42 => ?_)
      · refine r_lload X0 cx L_50 rfl ?_
        refine r_ldc2 X0 cx L_52 (hw.get 0 rfl) ?_
        refine r_land X0 cx L_55 ?_
        exact kj _ (own_max _)
      · refine r_lload X0 cx L_45 rfl ?_
        refine r_goto X0 cx L_47 ?_
        exact kj _ hk0
    · refine r_lload X0 cx L_33 rfl ?_
      refine r_goto X0 cx L_35 ?_
      exact kj _ p_k1
  refine kj56 (fun k2 p_k2 => ?_)
  refine r_lstore (fun zz => #[.val (.long i0), .second, .val (.long i1), .second, .val (.long i2), .second, .val (.long i3), .second, .val (.int i4), .val (.long k0), .second, .val (.long k1), .second, .val (.long zz), .second, .unset, .unset, .unset, .unset, .unset]) X0 cx L_56 (fun _ => rfl) (fun k2s e_k2s => ?_)
  replace e_k2s := e_k2s.symm
  subst e_k2s
  refine r_iload X0 cx L_58 rfl ?_
  refine r_iconst (3) X0 cx L_60 rfl ?_
  refine r_iushr X0 cx L_61 ?_
  refine r_iconst (3) X0 cx L_62 rfl ?_
  refine r_iand X0 cx L_63 ?_
  refine r_istore (fun zz => #[.val (.long i0), .second, .val (.long i1), .second, .val (.long i2), .second, .val (.long i3), .second, .val (.int i4), .val (.long k0), .second, .val (.long k1), .second, .val (.long k2), .second, .val (.int zz), .unset, .unset, .unset, .unset]) X0 cx L_64 (fun _ => rfl) (fun n e_n => ?_)
  refine r_new X0 cx L_66 (hw.get 1 rfl) (hw.get 2 rfl) (hw.get 3 rfl) (by decide) (by decide) (fun Tz101 hz101 o eaz101 g_o Xz101 Exz101 E_o Dz101 => ?_)
  have F_keys_o := Dz101 (Or.inl (hw.get 20 rfl)) (ty := .array .long) (by decide)
  have F_counts_o := Dz101 (Or.inl (hw.get 22 rfl)) (ty := .array .long) (by decide)
  have F_size_o := Dz101 (Or.inl (hw.get 29 rfl)) (ty := .int) (by decide)
  refine r_dup Xz101 cx L_69 rfl ?_
  refine r_special [] [(.ref o)] Xz101 cx L_70 rfl (hw.get 4 rfl) (hw.get 5 rfl) (hw.get 3 rfl) (hw.get 6 rfl) (by decide) (con_P27m1 K.l K.Z a0 hw o hz101 K.n0 Xz101.ge E_o F_keys_o F_counts_o F_size_o g_o) (lenOf pd_5 rfl) rfl rfl (by decide) (leb rfl) (by decide) (by decide) (fun Tz102 hz102 vz102 Xz102 qz102 => ?_) (fun _ _ q => q.1)
  obtain ⟨zz102, rfl, ak, ac, B⟩ := qz102
  have Iv := own_inv0
  have hcl : (List.replicate 16 (0 : Int64)).length = 16 := by simp
  refine r_astore #[.val (.long i0), .second, .val (.long i1), .second, .val (.long i2), .second, .val (.long i3), .second, .val (.int i4), .val (.long k0), .second, .val (.long k1), .second, .val (.long k2), .second, .val (.int n), .val (.ref o), .unset, .unset, .unset] Xz102 cx L_73 rfl ?_
  rcases own_m3 (XT.ushr i4 3) with m3 | m3 | m3 | m3
  · obtain rfl : n = (0 : Int32) := e_n.trans m3
    refine r_iload Xz102 cx L_75 rfl ?_
    refine r_iconst (1) Xz102 cx L_77 rfl ?_
    refine r_icmplt Xz102 cx L_78 (fun _ => ?_) (fun c => absurd c (by decide))
    refine r_iload Xz102 cx L_90 rfl ?_
    refine r_iconst (2) Xz102 cx L_92 rfl ?_
    refine r_icmplt Xz102 cx L_93 (fun _ => ?_) (fun c => absurd c (by decide))
    refine r_iload Xz102 cx L_105 rfl ?_
    refine r_iconst (3) Xz102 cx L_107 rfl ?_
    refine r_icmplt Xz102 cx L_108 (fun _ => ?_) (fun c => absurd c (by decide))
    refine r_aload Xz102 cx L_120 rfl ?_
    refine r_virtual [] [] Xz102 cx L_122 B.1 (hw.get 23 rfl) (hw.get 24 rfl) (hw.get 26 rfl) (hw.get 25 rfl) (hw.get 3 rfl) (hw.get 27 rfl) (by decide) (con_P27m4_0 K.l K.Z a0 hw o hz102 K.n0 Xz102.ge ak ac (List.replicate 16 (-1)) (List.replicate 16 0) B Iv.1 Iv.2.2.2) (lenOf pd_6 rfl) rfl rfl (by decide) (leb rfl) (by decide) (by decide) (fun Tz103 hz103 vz103 Xz103 qz103 => ?_) (fun _ _ q => q.1)
    obtain ⟨zz103, ra, rfl, A_ra⟩ := qz103
    have hrl : (own_f (List.replicate 16 (-1))).length = 0 := Iv.2.2.2
    refine r_astore #[.val (.long i0), .second, .val (.long i1), .second, .val (.long i2), .second, .val (.long i3), .second, .val (.int i4), .val (.long k0), .second, .val (.long k1), .second, .val (.long k2), .second, .val (.int (0 : Int32)), .val (.ref o), .val (.ref ra), .unset, .unset] Xz103 cx L_125 rfl ?_
    refine r_iload Xz103 cx L_127 rfl ?_
    refine r_ifne Xz103 cx L_129 (fun c => absurd c (by decide)) (fun _ => ?_)
    refine r_iconst (0) Xz103 cx L_132 rfl ?_
    refine r_istore (fun zz => #[.val (.long i0), .second, .val (.long i1), .second, .val (.long i2), .second, .val (.long i3), .second, .val (.int i4), .val (.long k0), .second, .val (.long k1), .second, .val (.long k2), .second, .val (.int (0 : Int32)), .val (.ref o), .val (.ref ra), .val (.int zz), .unset]) Xz103 cx L_133 (fun _ => rfl) (fun iz104 e_iz104 => ?_)
    subst e_iz104
    refine r_goto Xz103 cx L_135 ?_
    refine r_aload Xz103 cx L_193 rfl ?_
    refine r_alenJ Xz103 cx L_195 A_ra (0) hrl ?_
    refine r_iload Xz103 cx L_196 rfl ?_
    refine r_icmpeq Xz103 cx L_198 (fun _ => ?_) (fun c => absurd c (by decide))
    refine r_iconst (1) Xz103 cx L_203 rfl ?_
    refine r_istore (fun zz => #[.val (.long i0), .second, .val (.long i1), .second, .val (.long i2), .second, .val (.long i3), .second, .val (.int i4), .val (.long k0), .second, .val (.long k1), .second, .val (.long k2), .second, .val (.int (0 : Int32)), .val (.ref o), .val (.ref ra), .val (.int (0 : Int32)), .val (.int zz)]) Xz103 cx L_204 (fun _ => rfl) (fun iz105 e_iz105 => ?_)
    subst e_iz105
    refine r_iload Xz103 cx L_206 rfl ?_
    refine r_iconst (1) Xz103 cx L_208 rfl ?_
    refine r_icmplt Xz103 cx L_209 (fun _ => ?_) (fun c => absurd c (by decide))
    refine r_iload Xz103 cx L_225 rfl ?_
    refine r_iconst (2) Xz103 cx L_227 rfl ?_
    refine r_icmplt Xz103 cx L_228 (fun _ => ?_) (fun c => absurd c (by decide))
    refine r_iload Xz103 cx L_244 rfl ?_
    refine r_iconst (3) Xz103 cx L_246 rfl ?_
    refine r_icmplt Xz103 cx L_247 (fun _ => ?_) (fun c => absurd c (by decide))
    refine r_iload Xz103 cx L_263 rfl ?_
    refine r_zreturn Xz103 cx L_265 (by decide) (by decide) ?_
    rfl
  · obtain rfl : n = (1 : Int32) := e_n.trans m3
    refine r_iload Xz102 cx L_75 rfl ?_
    refine r_iconst (1) Xz102 cx L_77 rfl ?_
    refine r_icmplt Xz102 cx L_78 (fun c => absurd c (by decide)) (fun _ => ?_)
    refine r_aload Xz102 cx L_81 rfl ?_
    refine r_lload Xz102 cx L_83 rfl ?_
    refine r_lload Xz102 cx L_85 rfl ?_
    obtain ⟨jfz103, hjz103, hfz103⟩ := own_free Iv (by simp)
    have hsz103 := own_stop (k := k0) (own_hl k0) hjz103 hfz103
    refine r_virtual [(.long k0), (.long i3)] [] Xz102 cx L_87 B.1 (hw.get 30 rfl) (hw.get 31 rfl) (hw.get 33 rfl) (hw.get 32 rfl) (hw.get 3 rfl) (hw.get 34 rfl) (by decide) (con_P27m2_0 K.l K.Z a0 hw o k0 i3 hz102 K.n0 Xz102.ge ak ac (List.replicate 16 (-1)) (List.replicate 16 0) (own_pr 16 (List.replicate 16 (-1)) k0 (own_hash k0)) B Iv.1 hcl hk0 rfl hsz103) (lenOf pd_7 rfl) rfl rfl (by decide) (leb rfl) (by decide) (by decide) (fun Tz103 hz103 vz103 Xz103 qz103 => ?_) (fun _ _ q => q.1)
    obtain ⟨zz103, rfl, csz103, hcl, B⟩ := qz103
    rcases B with ⟨eB, B⟩ | ⟨eB, B⟩
    · obtain ⟨ni_k0, Iv⟩ := (own_step Iv (by simp) hk0).1 eB
      obtain ⟨ksz103, eksz103⟩ : ∃ z, z = (List.replicate 16 (-1)).set (own_pr 16 (List.replicate 16 (-1)) k0 (own_hash k0)) k0 := ⟨_, rfl⟩
      rw [← eksz103] at B Iv
      replace Iv : own_inv ksz103 [k0] := Iv
      refine r_iload Xz103 cx L_90 rfl ?_
      refine r_iconst (2) Xz103 cx L_92 rfl ?_
      refine r_icmplt Xz103 cx L_93 (fun _ => ?_) (fun c => absurd c (by decide))
      refine r_iload Xz103 cx L_105 rfl ?_
      refine r_iconst (3) Xz103 cx L_107 rfl ?_
      refine r_icmplt Xz103 cx L_108 (fun _ => ?_) (fun c => absurd c (by decide))
      refine r_aload Xz103 cx L_120 rfl ?_
      refine r_virtual [] [] Xz103 cx L_122 B.1 (hw.get 23 rfl) (hw.get 24 rfl) (hw.get 26 rfl) (hw.get 25 rfl) (hw.get 3 rfl) (hw.get 27 rfl) (by decide) (con_P27m4_1 K.l K.Z a0 hw o hz103 K.n0 Xz103.ge ak ac ksz103 csz103 B Iv.1 Iv.2.2.2) (lenOf pd_6 rfl) rfl rfl (by decide) (leb rfl) (by decide) (by decide) (fun Tz104 hz104 vz104 Xz104 qz104 => ?_) (fun _ _ q => q.1)
      obtain ⟨zz104, ra, rfl, A_ra⟩ := qz104
      have hrl : (own_f ksz103).length = 1 := Iv.2.2.2
      refine r_astore #[.val (.long i0), .second, .val (.long i1), .second, .val (.long i2), .second, .val (.long i3), .second, .val (.int i4), .val (.long k0), .second, .val (.long k1), .second, .val (.long k2), .second, .val (.int (1 : Int32)), .val (.ref o), .val (.ref ra), .unset, .unset] Xz104 cx L_125 rfl ?_
      refine r_iload Xz104 cx L_127 rfl ?_
      refine r_ifne Xz104 cx L_129 (fun _ => ?_) (fun c => absurd c (by decide))
      refine r_iload Xz104 cx L_138 rfl ?_
      refine r_iconst (1) Xz104 cx L_140 rfl ?_
      refine r_icmpne Xz104 cx L_141 (fun c => absurd c (by decide)) (fun _ => ?_)
      refine r_iconst (1) Xz104 cx L_144 rfl ?_
      refine r_istore (fun zz => #[.val (.long i0), .second, .val (.long i1), .second, .val (.long i2), .second, .val (.long i3), .second, .val (.int i4), .val (.long k0), .second, .val (.long k1), .second, .val (.long k2), .second, .val (.int (1 : Int32)), .val (.ref o), .val (.ref ra), .val (.int zz), .unset]) Xz104 cx L_145 (fun _ => rfl) (fun iz105 e_iz105 => ?_)
      subst e_iz105
      refine r_goto Xz104 cx L_147 ?_
      refine r_aload Xz104 cx L_193 rfl ?_
      refine r_alenJ Xz104 cx L_195 A_ra (1) hrl ?_
      refine r_iload Xz104 cx L_196 rfl ?_
      refine r_icmpeq Xz104 cx L_198 (fun _ => ?_) (fun c => absurd c (by decide))
      refine r_iconst (1) Xz104 cx L_203 rfl ?_
      refine r_istore (fun zz => #[.val (.long i0), .second, .val (.long i1), .second, .val (.long i2), .second, .val (.long i3), .second, .val (.int i4), .val (.long k0), .second, .val (.long k1), .second, .val (.long k2), .second, .val (.int (1 : Int32)), .val (.ref o), .val (.ref ra), .val (.int (1 : Int32)), .val (.int zz)]) Xz104 cx L_204 (fun _ => rfl) (fun iz106 e_iz106 => ?_)
      subst e_iz106
      refine r_iload Xz104 cx L_206 rfl ?_
      refine r_iconst (1) Xz104 cx L_208 rfl ?_
      refine r_icmplt Xz104 cx L_209 (fun c => absurd c (by decide)) (fun _ => ?_)
      refine r_aload Xz104 cx L_212 rfl ?_
      refine r_lload Xz104 cx L_214 rfl ?_
      refine r_static [(.ref ra), (.long k0)] [] Xz104 cx L_216 (hw.get 48 rfl) (hw.get 49 rfl) (hw.get 50 rfl) (hw.get 51 rfl) (by decide) (con_H3 K.l K.Z a0 hw ra k0 hz104 K.n0 Xz104.ge (own_f ksz103) A_ra (by rw [hrl]; decide)) (lenOf pd_8 rfl) rfl rfl (by decide) (leb rfl) (by decide) (by decide) (fun Tz107 hz107 vz107 Xz107 qz107 => ?_) (fun _ _ q => Nat.le_of_eq (congrArg Array.size q.1))
      obtain ⟨rfl, rfl⟩ := qz107
      refine r_top (v' := 1) (if_pos (own_inf Iv k0 (by simp))) ?_
      refine r_ifne Xz107 cx L_219 (fun _ => ?_) (fun c => absurd c (by decide))
      refine r_iload Xz107 cx L_225 rfl ?_
      refine r_iconst (2) Xz107 cx L_227 rfl ?_
      refine r_icmplt Xz107 cx L_228 (fun _ => ?_) (fun c => absurd c (by decide))
      refine r_iload Xz107 cx L_244 rfl ?_
      refine r_iconst (3) Xz107 cx L_246 rfl ?_
      refine r_icmplt Xz107 cx L_247 (fun _ => ?_) (fun c => absurd c (by decide))
      refine r_iload Xz107 cx L_263 rfl ?_
      refine r_zreturn Xz107 cx L_265 (by decide) (by decide) ?_
      rfl
    · have in_k0 := (own_step Iv (by simp) hk0).2 eB
      exact absurd in_k0 List.not_mem_nil
  · obtain rfl : n = (2 : Int32) := e_n.trans m3
    refine r_iload Xz102 cx L_75 rfl ?_
    refine r_iconst (1) Xz102 cx L_77 rfl ?_
    refine r_icmplt Xz102 cx L_78 (fun c => absurd c (by decide)) (fun _ => ?_)
    refine r_aload Xz102 cx L_81 rfl ?_
    refine r_lload Xz102 cx L_83 rfl ?_
    refine r_lload Xz102 cx L_85 rfl ?_
    obtain ⟨jfz103, hjz103, hfz103⟩ := own_free Iv (by simp)
    have hsz103 := own_stop (k := k0) (own_hl k0) hjz103 hfz103
    refine r_virtual [(.long k0), (.long i3)] [] Xz102 cx L_87 B.1 (hw.get 30 rfl) (hw.get 31 rfl) (hw.get 33 rfl) (hw.get 32 rfl) (hw.get 3 rfl) (hw.get 34 rfl) (by decide) (con_P27m2_0 K.l K.Z a0 hw o k0 i3 hz102 K.n0 Xz102.ge ak ac (List.replicate 16 (-1)) (List.replicate 16 0) (own_pr 16 (List.replicate 16 (-1)) k0 (own_hash k0)) B Iv.1 hcl hk0 rfl hsz103) (lenOf pd_7 rfl) rfl rfl (by decide) (leb rfl) (by decide) (by decide) (fun Tz103 hz103 vz103 Xz103 qz103 => ?_) (fun _ _ q => q.1)
    obtain ⟨zz103, rfl, csz103, hcl, B⟩ := qz103
    rcases B with ⟨eB, B⟩ | ⟨eB, B⟩
    · obtain ⟨ni_k0, Iv⟩ := (own_step Iv (by simp) hk0).1 eB
      obtain ⟨ksz103, eksz103⟩ : ∃ z, z = (List.replicate 16 (-1)).set (own_pr 16 (List.replicate 16 (-1)) k0 (own_hash k0)) k0 := ⟨_, rfl⟩
      rw [← eksz103] at B Iv
      replace Iv : own_inv ksz103 [k0] := Iv
      refine r_iload Xz103 cx L_90 rfl ?_
      refine r_iconst (2) Xz103 cx L_92 rfl ?_
      refine r_icmplt Xz103 cx L_93 (fun c => absurd c (by decide)) (fun _ => ?_)
      refine r_aload Xz103 cx L_96 rfl ?_
      refine r_lload Xz103 cx L_98 rfl ?_
      refine r_lload Xz103 cx L_100 rfl ?_
      obtain ⟨jfz104, hjz104, hfz104⟩ := own_free Iv (by simp)
      have hsz104 := own_stop (k := k1) (own_hl k1) hjz104 hfz104
      refine r_virtual [(.long k1), (.long i3)] [] Xz103 cx L_102 B.1 (hw.get 30 rfl) (hw.get 31 rfl) (hw.get 33 rfl) (hw.get 32 rfl) (hw.get 3 rfl) (hw.get 34 rfl) (by decide) (con_P27m2_1 K.l K.Z a0 hw o k1 i3 hz103 K.n0 Xz103.ge ak ac ksz103 csz103 (own_pr 16 ksz103 k1 (own_hash k1)) B Iv.1 hcl p_k1 rfl hsz104) (lenOf pd_7 rfl) rfl rfl (by decide) (leb rfl) (by decide) (by decide) (fun Tz104 hz104 vz104 Xz104 qz104 => ?_) (fun _ _ q => q.1)
      obtain ⟨zz104, rfl, csz104, hcl, B⟩ := qz104
      rcases B with ⟨eB, B⟩ | ⟨eB, B⟩
      · obtain ⟨ni_k1, Iv⟩ := (own_step Iv (by simp) p_k1).1 eB
        obtain ⟨ksz104, eksz104⟩ : ∃ z, z = ksz103.set (own_pr 16 ksz103 k1 (own_hash k1)) k1 := ⟨_, rfl⟩
        rw [← eksz104] at B Iv
        replace Iv : own_inv ksz104 [k0, k1] := Iv
        refine r_iload Xz104 cx L_105 rfl ?_
        refine r_iconst (3) Xz104 cx L_107 rfl ?_
        refine r_icmplt Xz104 cx L_108 (fun _ => ?_) (fun c => absurd c (by decide))
        refine r_aload Xz104 cx L_120 rfl ?_
        refine r_virtual [] [] Xz104 cx L_122 B.1 (hw.get 23 rfl) (hw.get 24 rfl) (hw.get 26 rfl) (hw.get 25 rfl) (hw.get 3 rfl) (hw.get 27 rfl) (by decide) (con_P27m4_2 K.l K.Z a0 hw o hz104 K.n0 Xz104.ge ak ac ksz104 csz104 B Iv.1 Iv.2.2.2) (lenOf pd_6 rfl) rfl rfl (by decide) (leb rfl) (by decide) (by decide) (fun Tz105 hz105 vz105 Xz105 qz105 => ?_) (fun _ _ q => q.1)
        obtain ⟨zz105, ra, rfl, A_ra⟩ := qz105
        have hrl : (own_f ksz104).length = 2 := Iv.2.2.2
        refine r_astore #[.val (.long i0), .second, .val (.long i1), .second, .val (.long i2), .second, .val (.long i3), .second, .val (.int i4), .val (.long k0), .second, .val (.long k1), .second, .val (.long k2), .second, .val (.int (2 : Int32)), .val (.ref o), .val (.ref ra), .unset, .unset] Xz105 cx L_125 rfl ?_
        refine r_iload Xz105 cx L_127 rfl ?_
        refine r_ifne Xz105 cx L_129 (fun _ => ?_) (fun c => absurd c (by decide))
        refine r_iload Xz105 cx L_138 rfl ?_
        refine r_iconst (1) Xz105 cx L_140 rfl ?_
        refine r_icmpne Xz105 cx L_141 (fun _ => ?_) (fun c => absurd c (by decide))
        refine r_lload Xz105 cx L_150 rfl ?_
        refine r_lload Xz105 cx L_152 rfl ?_
        refine r_lcmp Xz105 cx L_154 ?_
        refine r_lcmpne Xz105 cx L_155 (fun c155 => ?_) (fun c155 => ?_)
        · refine r_iconst (2) Xz105 cx L_162 rfl ?_
          refine r_istore (fun zz => #[.val (.long i0), .second, .val (.long i1), .second, .val (.long i2), .second, .val (.long i3), .second, .val (.int i4), .val (.long k0), .second, .val (.long k1), .second, .val (.long k2), .second, .val (.int (2 : Int32)), .val (.ref o), .val (.ref ra), .val (.int zz), .unset]) Xz105 cx L_163 (fun _ => rfl) (fun iz106 e_iz106 => ?_)
          subst e_iz106
          refine r_iload Xz105 cx L_165 rfl ?_
          refine r_iconst (3) Xz105 cx L_167 rfl ?_
          refine r_icmpne Xz105 cx L_168 (fun _ => ?_) (fun c => absurd c (by decide))
          refine r_aload Xz105 cx L_193 rfl ?_
          refine r_alenJ Xz105 cx L_195 A_ra (2) hrl ?_
          refine r_iload Xz105 cx L_196 rfl ?_
          refine r_icmpeq Xz105 cx L_198 (fun _ => ?_) (fun c => absurd c (by decide))
          refine r_iconst (1) Xz105 cx L_203 rfl ?_
          refine r_istore (fun zz => #[.val (.long i0), .second, .val (.long i1), .second, .val (.long i2), .second, .val (.long i3), .second, .val (.int i4), .val (.long k0), .second, .val (.long k1), .second, .val (.long k2), .second, .val (.int (2 : Int32)), .val (.ref o), .val (.ref ra), .val (.int (2 : Int32)), .val (.int zz)]) Xz105 cx L_204 (fun _ => rfl) (fun iz107 e_iz107 => ?_)
          subst e_iz107
          refine r_iload Xz105 cx L_206 rfl ?_
          refine r_iconst (1) Xz105 cx L_208 rfl ?_
          refine r_icmplt Xz105 cx L_209 (fun c => absurd c (by decide)) (fun _ => ?_)
          refine r_aload Xz105 cx L_212 rfl ?_
          refine r_lload Xz105 cx L_214 rfl ?_
          refine r_static [(.ref ra), (.long k0)] [] Xz105 cx L_216 (hw.get 48 rfl) (hw.get 49 rfl) (hw.get 50 rfl) (hw.get 51 rfl) (by decide) (con_H3 K.l K.Z a0 hw ra k0 hz105 K.n0 Xz105.ge (own_f ksz104) A_ra (by rw [hrl]; decide)) (lenOf pd_8 rfl) rfl rfl (by decide) (leb rfl) (by decide) (by decide) (fun Tz108 hz108 vz108 Xz108 qz108 => ?_) (fun _ _ q => Nat.le_of_eq (congrArg Array.size q.1))
          obtain ⟨rfl, rfl⟩ := qz108
          refine r_top (v' := 1) (if_pos (own_inf Iv k0 (by simp))) ?_
          refine r_ifne Xz108 cx L_219 (fun _ => ?_) (fun c => absurd c (by decide))
          refine r_iload Xz108 cx L_225 rfl ?_
          refine r_iconst (2) Xz108 cx L_227 rfl ?_
          refine r_icmplt Xz108 cx L_228 (fun c => absurd c (by decide)) (fun _ => ?_)
          refine r_aload Xz108 cx L_231 rfl ?_
          refine r_lload Xz108 cx L_233 rfl ?_
          refine r_static [(.ref ra), (.long k1)] [] Xz108 cx L_235 (hw.get 48 rfl) (hw.get 49 rfl) (hw.get 50 rfl) (hw.get 51 rfl) (by decide) (con_H3 K.l K.Z a0 hw ra k1 hz105 K.n0 Xz108.ge (own_f ksz104) A_ra (by rw [hrl]; decide)) (lenOf pd_8 rfl) rfl rfl (by decide) (leb rfl) (by decide) (by decide) (fun Tz109 hz109 vz109 Xz109 qz109 => ?_) (fun _ _ q => Nat.le_of_eq (congrArg Array.size q.1))
          obtain ⟨rfl, rfl⟩ := qz109
          refine r_top (v' := 1) (if_pos (own_inf Iv k1 (by simp))) ?_
          refine r_ifne Xz109 cx L_238 (fun _ => ?_) (fun c => absurd c (by decide))
          refine r_iload Xz109 cx L_244 rfl ?_
          refine r_iconst (3) Xz109 cx L_246 rfl ?_
          refine r_icmplt Xz109 cx L_247 (fun _ => ?_) (fun c => absurd c (by decide))
          refine r_iload Xz109 cx L_263 rfl ?_
          refine r_zreturn Xz109 cx L_265 (by decide) (by decide) ?_
          rfl
        · exact absurd (by rw [c155]; simp) ni_k1
      · have in_k1 := (own_step Iv (by simp) p_k1).2 eB
        refine r_iload Xz104 cx L_105 rfl ?_
        refine r_iconst (3) Xz104 cx L_107 rfl ?_
        refine r_icmplt Xz104 cx L_108 (fun _ => ?_) (fun c => absurd c (by decide))
        refine r_aload Xz104 cx L_120 rfl ?_
        refine r_virtual [] [] Xz104 cx L_122 B.1 (hw.get 23 rfl) (hw.get 24 rfl) (hw.get 26 rfl) (hw.get 25 rfl) (hw.get 3 rfl) (hw.get 27 rfl) (by decide) (con_P27m4_1 K.l K.Z a0 hw o hz104 K.n0 Xz104.ge ak ac ksz103 csz104 B Iv.1 Iv.2.2.2) (lenOf pd_6 rfl) rfl rfl (by decide) (leb rfl) (by decide) (by decide) (fun Tz105 hz105 vz105 Xz105 qz105 => ?_) (fun _ _ q => q.1)
        obtain ⟨zz105, ra, rfl, A_ra⟩ := qz105
        have hrl : (own_f ksz103).length = 1 := Iv.2.2.2
        refine r_astore #[.val (.long i0), .second, .val (.long i1), .second, .val (.long i2), .second, .val (.long i3), .second, .val (.int i4), .val (.long k0), .second, .val (.long k1), .second, .val (.long k2), .second, .val (.int (2 : Int32)), .val (.ref o), .val (.ref ra), .unset, .unset] Xz105 cx L_125 rfl ?_
        refine r_iload Xz105 cx L_127 rfl ?_
        refine r_ifne Xz105 cx L_129 (fun _ => ?_) (fun c => absurd c (by decide))
        refine r_iload Xz105 cx L_138 rfl ?_
        refine r_iconst (1) Xz105 cx L_140 rfl ?_
        refine r_icmpne Xz105 cx L_141 (fun _ => ?_) (fun c => absurd c (by decide))
        refine r_lload Xz105 cx L_150 rfl ?_
        refine r_lload Xz105 cx L_152 rfl ?_
        refine r_lcmp Xz105 cx L_154 ?_
        refine r_lcmpne Xz105 cx L_155 (fun c155 => ?_) (fun c155 => ?_)
        · exact absurd (List.mem_singleton.mp in_k1) c155
        · refine r_iconst (1) Xz105 cx L_158 rfl ?_
          refine r_goto Xz105 cx L_159 ?_
          refine r_istore (fun zz => #[.val (.long i0), .second, .val (.long i1), .second, .val (.long i2), .second, .val (.long i3), .second, .val (.int i4), .val (.long k0), .second, .val (.long k1), .second, .val (.long k2), .second, .val (.int (2 : Int32)), .val (.ref o), .val (.ref ra), .val (.int zz), .unset]) Xz105 cx L_163 (fun _ => rfl) (fun iz106 e_iz106 => ?_)
          subst e_iz106
          refine r_iload Xz105 cx L_165 rfl ?_
          refine r_iconst (3) Xz105 cx L_167 rfl ?_
          refine r_icmpne Xz105 cx L_168 (fun _ => ?_) (fun c => absurd c (by decide))
          refine r_aload Xz105 cx L_193 rfl ?_
          refine r_alenJ Xz105 cx L_195 A_ra (1) hrl ?_
          refine r_iload Xz105 cx L_196 rfl ?_
          refine r_icmpeq Xz105 cx L_198 (fun _ => ?_) (fun c => absurd c (by decide))
          refine r_iconst (1) Xz105 cx L_203 rfl ?_
          refine r_istore (fun zz => #[.val (.long i0), .second, .val (.long i1), .second, .val (.long i2), .second, .val (.long i3), .second, .val (.int i4), .val (.long k0), .second, .val (.long k1), .second, .val (.long k2), .second, .val (.int (2 : Int32)), .val (.ref o), .val (.ref ra), .val (.int (1 : Int32)), .val (.int zz)]) Xz105 cx L_204 (fun _ => rfl) (fun iz107 e_iz107 => ?_)
          subst e_iz107
          refine r_iload Xz105 cx L_206 rfl ?_
          refine r_iconst (1) Xz105 cx L_208 rfl ?_
          refine r_icmplt Xz105 cx L_209 (fun c => absurd c (by decide)) (fun _ => ?_)
          refine r_aload Xz105 cx L_212 rfl ?_
          refine r_lload Xz105 cx L_214 rfl ?_
          refine r_static [(.ref ra), (.long k0)] [] Xz105 cx L_216 (hw.get 48 rfl) (hw.get 49 rfl) (hw.get 50 rfl) (hw.get 51 rfl) (by decide) (con_H3 K.l K.Z a0 hw ra k0 hz105 K.n0 Xz105.ge (own_f ksz103) A_ra (by rw [hrl]; decide)) (lenOf pd_8 rfl) rfl rfl (by decide) (leb rfl) (by decide) (by decide) (fun Tz108 hz108 vz108 Xz108 qz108 => ?_) (fun _ _ q => Nat.le_of_eq (congrArg Array.size q.1))
          obtain ⟨rfl, rfl⟩ := qz108
          refine r_top (v' := 1) (if_pos (own_inf Iv k0 (by simp))) ?_
          refine r_ifne Xz108 cx L_219 (fun _ => ?_) (fun c => absurd c (by decide))
          refine r_iload Xz108 cx L_225 rfl ?_
          refine r_iconst (2) Xz108 cx L_227 rfl ?_
          refine r_icmplt Xz108 cx L_228 (fun c => absurd c (by decide)) (fun _ => ?_)
          refine r_aload Xz108 cx L_231 rfl ?_
          refine r_lload Xz108 cx L_233 rfl ?_
          refine r_static [(.ref ra), (.long k1)] [] Xz108 cx L_235 (hw.get 48 rfl) (hw.get 49 rfl) (hw.get 50 rfl) (hw.get 51 rfl) (by decide) (con_H3 K.l K.Z a0 hw ra k1 hz105 K.n0 Xz108.ge (own_f ksz103) A_ra (by rw [hrl]; decide)) (lenOf pd_8 rfl) rfl rfl (by decide) (leb rfl) (by decide) (by decide) (fun Tz109 hz109 vz109 Xz109 qz109 => ?_) (fun _ _ q => Nat.le_of_eq (congrArg Array.size q.1))
          obtain ⟨rfl, rfl⟩ := qz109
          refine r_top (v' := 1) (if_pos (own_inf Iv k1 (by have := in_k1; simp only [List.mem_cons, List.not_mem_nil, or_false] at this ⊢; first | exact this | exact Or.inl this | (rcases this with h | h; exact Or.inl h; exact Or.inr (Or.inl h))))) ?_
          refine r_ifne Xz109 cx L_238 (fun _ => ?_) (fun c => absurd c (by decide))
          refine r_iload Xz109 cx L_244 rfl ?_
          refine r_iconst (3) Xz109 cx L_246 rfl ?_
          refine r_icmplt Xz109 cx L_247 (fun _ => ?_) (fun c => absurd c (by decide))
          refine r_iload Xz109 cx L_263 rfl ?_
          refine r_zreturn Xz109 cx L_265 (by decide) (by decide) ?_
          rfl
    · have in_k0 := (own_step Iv (by simp) hk0).2 eB
      exact absurd in_k0 List.not_mem_nil
  · obtain rfl : n = (3 : Int32) := e_n.trans m3
    refine r_iload Xz102 cx L_75 rfl ?_
    refine r_iconst (1) Xz102 cx L_77 rfl ?_
    refine r_icmplt Xz102 cx L_78 (fun c => absurd c (by decide)) (fun _ => ?_)
    refine r_aload Xz102 cx L_81 rfl ?_
    refine r_lload Xz102 cx L_83 rfl ?_
    refine r_lload Xz102 cx L_85 rfl ?_
    obtain ⟨jfz103, hjz103, hfz103⟩ := own_free Iv (by simp)
    have hsz103 := own_stop (k := k0) (own_hl k0) hjz103 hfz103
    refine r_virtual [(.long k0), (.long i3)] [] Xz102 cx L_87 B.1 (hw.get 30 rfl) (hw.get 31 rfl) (hw.get 33 rfl) (hw.get 32 rfl) (hw.get 3 rfl) (hw.get 34 rfl) (by decide) (con_P27m2_0 K.l K.Z a0 hw o k0 i3 hz102 K.n0 Xz102.ge ak ac (List.replicate 16 (-1)) (List.replicate 16 0) (own_pr 16 (List.replicate 16 (-1)) k0 (own_hash k0)) B Iv.1 hcl hk0 rfl hsz103) (lenOf pd_7 rfl) rfl rfl (by decide) (leb rfl) (by decide) (by decide) (fun Tz103 hz103 vz103 Xz103 qz103 => ?_) (fun _ _ q => q.1)
    obtain ⟨zz103, rfl, csz103, hcl, B⟩ := qz103
    rcases B with ⟨eB, B⟩ | ⟨eB, B⟩
    · obtain ⟨ni_k0, Iv⟩ := (own_step Iv (by simp) hk0).1 eB
      obtain ⟨ksz103, eksz103⟩ : ∃ z, z = (List.replicate 16 (-1)).set (own_pr 16 (List.replicate 16 (-1)) k0 (own_hash k0)) k0 := ⟨_, rfl⟩
      rw [← eksz103] at B Iv
      replace Iv : own_inv ksz103 [k0] := Iv
      refine r_iload Xz103 cx L_90 rfl ?_
      refine r_iconst (2) Xz103 cx L_92 rfl ?_
      refine r_icmplt Xz103 cx L_93 (fun c => absurd c (by decide)) (fun _ => ?_)
      refine r_aload Xz103 cx L_96 rfl ?_
      refine r_lload Xz103 cx L_98 rfl ?_
      refine r_lload Xz103 cx L_100 rfl ?_
      obtain ⟨jfz104, hjz104, hfz104⟩ := own_free Iv (by simp)
      have hsz104 := own_stop (k := k1) (own_hl k1) hjz104 hfz104
      refine r_virtual [(.long k1), (.long i3)] [] Xz103 cx L_102 B.1 (hw.get 30 rfl) (hw.get 31 rfl) (hw.get 33 rfl) (hw.get 32 rfl) (hw.get 3 rfl) (hw.get 34 rfl) (by decide) (con_P27m2_1 K.l K.Z a0 hw o k1 i3 hz103 K.n0 Xz103.ge ak ac ksz103 csz103 (own_pr 16 ksz103 k1 (own_hash k1)) B Iv.1 hcl p_k1 rfl hsz104) (lenOf pd_7 rfl) rfl rfl (by decide) (leb rfl) (by decide) (by decide) (fun Tz104 hz104 vz104 Xz104 qz104 => ?_) (fun _ _ q => q.1)
      obtain ⟨zz104, rfl, csz104, hcl, B⟩ := qz104
      rcases B with ⟨eB, B⟩ | ⟨eB, B⟩
      · obtain ⟨ni_k1, Iv⟩ := (own_step Iv (by simp) p_k1).1 eB
        obtain ⟨ksz104, eksz104⟩ : ∃ z, z = ksz103.set (own_pr 16 ksz103 k1 (own_hash k1)) k1 := ⟨_, rfl⟩
        rw [← eksz104] at B Iv
        replace Iv : own_inv ksz104 [k0, k1] := Iv
        refine r_iload Xz104 cx L_105 rfl ?_
        refine r_iconst (3) Xz104 cx L_107 rfl ?_
        refine r_icmplt Xz104 cx L_108 (fun c => absurd c (by decide)) (fun _ => ?_)
        refine r_aload Xz104 cx L_111 rfl ?_
        refine r_lload Xz104 cx L_113 rfl ?_
        refine r_lload Xz104 cx L_115 rfl ?_
        obtain ⟨jfz105, hjz105, hfz105⟩ := own_free Iv (by simp)
        have hsz105 := own_stop (k := k2) (own_hl k2) hjz105 hfz105
        refine r_virtual [(.long k2), (.long i3)] [] Xz104 cx L_117 B.1 (hw.get 30 rfl) (hw.get 31 rfl) (hw.get 33 rfl) (hw.get 32 rfl) (hw.get 3 rfl) (hw.get 34 rfl) (by decide) (con_P27m2_2 K.l K.Z a0 hw o k2 i3 hz104 K.n0 Xz104.ge ak ac ksz104 csz104 (own_pr 16 ksz104 k2 (own_hash k2)) B Iv.1 hcl p_k2 rfl hsz105) (lenOf pd_7 rfl) rfl rfl (by decide) (leb rfl) (by decide) (by decide) (fun Tz105 hz105 vz105 Xz105 qz105 => ?_) (fun _ _ q => q.1)
        obtain ⟨zz105, rfl, csz105, hcl, B⟩ := qz105
        rcases B with ⟨eB, B⟩ | ⟨eB, B⟩
        · obtain ⟨ni_k2, Iv⟩ := (own_step Iv (by simp) p_k2).1 eB
          obtain ⟨ksz105, eksz105⟩ : ∃ z, z = ksz104.set (own_pr 16 ksz104 k2 (own_hash k2)) k2 := ⟨_, rfl⟩
          rw [← eksz105] at B Iv
          replace Iv : own_inv ksz105 [k0, k1, k2] := Iv
          refine r_aload Xz105 cx L_120 rfl ?_
          refine r_virtual [] [] Xz105 cx L_122 B.1 (hw.get 23 rfl) (hw.get 24 rfl) (hw.get 26 rfl) (hw.get 25 rfl) (hw.get 3 rfl) (hw.get 27 rfl) (by decide) (con_P27m4_3 K.l K.Z a0 hw o hz105 K.n0 Xz105.ge ak ac ksz105 csz105 B Iv.1 Iv.2.2.2) (lenOf pd_6 rfl) rfl rfl (by decide) (leb rfl) (by decide) (by decide) (fun Tz106 hz106 vz106 Xz106 qz106 => ?_) (fun _ _ q => q.1)
          obtain ⟨zz106, ra, rfl, A_ra⟩ := qz106
          have hrl : (own_f ksz105).length = 3 := Iv.2.2.2
          refine r_astore #[.val (.long i0), .second, .val (.long i1), .second, .val (.long i2), .second, .val (.long i3), .second, .val (.int i4), .val (.long k0), .second, .val (.long k1), .second, .val (.long k2), .second, .val (.int (3 : Int32)), .val (.ref o), .val (.ref ra), .unset, .unset] Xz106 cx L_125 rfl ?_
          refine r_iload Xz106 cx L_127 rfl ?_
          refine r_ifne Xz106 cx L_129 (fun _ => ?_) (fun c => absurd c (by decide))
          refine r_iload Xz106 cx L_138 rfl ?_
          refine r_iconst (1) Xz106 cx L_140 rfl ?_
          refine r_icmpne Xz106 cx L_141 (fun _ => ?_) (fun c => absurd c (by decide))
          refine r_lload Xz106 cx L_150 rfl ?_
          refine r_lload Xz106 cx L_152 rfl ?_
          refine r_lcmp Xz106 cx L_154 ?_
          refine r_lcmpne Xz106 cx L_155 (fun c155 => ?_) (fun c155 => ?_)
          · refine r_iconst (2) Xz106 cx L_162 rfl ?_
            refine r_istore (fun zz => #[.val (.long i0), .second, .val (.long i1), .second, .val (.long i2), .second, .val (.long i3), .second, .val (.int i4), .val (.long k0), .second, .val (.long k1), .second, .val (.long k2), .second, .val (.int (3 : Int32)), .val (.ref o), .val (.ref ra), .val (.int zz), .unset]) Xz106 cx L_163 (fun _ => rfl) (fun iz107 e_iz107 => ?_)
            subst e_iz107
            refine r_iload Xz106 cx L_165 rfl ?_
            refine r_iconst (3) Xz106 cx L_167 rfl ?_
            refine r_icmpne Xz106 cx L_168 (fun c => absurd c (by decide)) (fun _ => ?_)
            refine r_lload Xz106 cx L_171 rfl ?_
            refine r_lload Xz106 cx L_173 rfl ?_
            refine r_lcmp Xz106 cx L_175 ?_
            refine r_lcmpeq Xz106 cx L_176 (fun c176 => ?_) (fun c176 => ?_)
            · exact absurd (by rw [c176]; simp) ni_k2
            · refine r_lload Xz106 cx L_179 rfl ?_
              refine r_lload Xz106 cx L_181 rfl ?_
              refine r_lcmp Xz106 cx L_183 ?_
              refine r_lcmpeq Xz106 cx L_184 (fun c184 => ?_) (fun c184 => ?_)
              · exact absurd (by rw [c184]; simp) ni_k2
              · refine r_iload Xz106 cx L_187 rfl ?_
                refine r_iconst (1) Xz106 cx L_189 rfl ?_
                refine r_iadd Xz106 cx L_190 ?_
                refine r_top (v' := 3) (by decide) ?_
                refine r_istore (fun zz => #[.val (.long i0), .second, .val (.long i1), .second, .val (.long i2), .second, .val (.long i3), .second, .val (.int i4), .val (.long k0), .second, .val (.long k1), .second, .val (.long k2), .second, .val (.int (3 : Int32)), .val (.ref o), .val (.ref ra), .val (.int zz), .unset]) Xz106 cx L_191 (fun _ => rfl) (fun iz108 e_iz108 => ?_)
                subst e_iz108
                refine r_aload Xz106 cx L_193 rfl ?_
                refine r_alenJ Xz106 cx L_195 A_ra (3) hrl ?_
                refine r_iload Xz106 cx L_196 rfl ?_
                refine r_icmpeq Xz106 cx L_198 (fun _ => ?_) (fun c => absurd c (by decide))
                refine r_iconst (1) Xz106 cx L_203 rfl ?_
                refine r_istore (fun zz => #[.val (.long i0), .second, .val (.long i1), .second, .val (.long i2), .second, .val (.long i3), .second, .val (.int i4), .val (.long k0), .second, .val (.long k1), .second, .val (.long k2), .second, .val (.int (3 : Int32)), .val (.ref o), .val (.ref ra), .val (.int (3 : Int32)), .val (.int zz)]) Xz106 cx L_204 (fun _ => rfl) (fun iz109 e_iz109 => ?_)
                subst e_iz109
                refine r_iload Xz106 cx L_206 rfl ?_
                refine r_iconst (1) Xz106 cx L_208 rfl ?_
                refine r_icmplt Xz106 cx L_209 (fun c => absurd c (by decide)) (fun _ => ?_)
                refine r_aload Xz106 cx L_212 rfl ?_
                refine r_lload Xz106 cx L_214 rfl ?_
                refine r_static [(.ref ra), (.long k0)] [] Xz106 cx L_216 (hw.get 48 rfl) (hw.get 49 rfl) (hw.get 50 rfl) (hw.get 51 rfl) (by decide) (con_H3 K.l K.Z a0 hw ra k0 hz106 K.n0 Xz106.ge (own_f ksz105) A_ra (by rw [hrl]; decide)) (lenOf pd_8 rfl) rfl rfl (by decide) (leb rfl) (by decide) (by decide) (fun Tz110 hz110 vz110 Xz110 qz110 => ?_) (fun _ _ q => Nat.le_of_eq (congrArg Array.size q.1))
                obtain ⟨rfl, rfl⟩ := qz110
                refine r_top (v' := 1) (if_pos (own_inf Iv k0 (by simp))) ?_
                refine r_ifne Xz110 cx L_219 (fun _ => ?_) (fun c => absurd c (by decide))
                refine r_iload Xz110 cx L_225 rfl ?_
                refine r_iconst (2) Xz110 cx L_227 rfl ?_
                refine r_icmplt Xz110 cx L_228 (fun c => absurd c (by decide)) (fun _ => ?_)
                refine r_aload Xz110 cx L_231 rfl ?_
                refine r_lload Xz110 cx L_233 rfl ?_
                refine r_static [(.ref ra), (.long k1)] [] Xz110 cx L_235 (hw.get 48 rfl) (hw.get 49 rfl) (hw.get 50 rfl) (hw.get 51 rfl) (by decide) (con_H3 K.l K.Z a0 hw ra k1 hz106 K.n0 Xz110.ge (own_f ksz105) A_ra (by rw [hrl]; decide)) (lenOf pd_8 rfl) rfl rfl (by decide) (leb rfl) (by decide) (by decide) (fun Tz111 hz111 vz111 Xz111 qz111 => ?_) (fun _ _ q => Nat.le_of_eq (congrArg Array.size q.1))
                obtain ⟨rfl, rfl⟩ := qz111
                refine r_top (v' := 1) (if_pos (own_inf Iv k1 (by simp))) ?_
                refine r_ifne Xz111 cx L_238 (fun _ => ?_) (fun c => absurd c (by decide))
                refine r_iload Xz111 cx L_244 rfl ?_
                refine r_iconst (3) Xz111 cx L_246 rfl ?_
                refine r_icmplt Xz111 cx L_247 (fun c => absurd c (by decide)) (fun _ => ?_)
                refine r_aload Xz111 cx L_250 rfl ?_
                refine r_lload Xz111 cx L_252 rfl ?_
                refine r_static [(.ref ra), (.long k2)] [] Xz111 cx L_254 (hw.get 48 rfl) (hw.get 49 rfl) (hw.get 50 rfl) (hw.get 51 rfl) (by decide) (con_H3 K.l K.Z a0 hw ra k2 hz106 K.n0 Xz111.ge (own_f ksz105) A_ra (by rw [hrl]; decide)) (lenOf pd_8 rfl) rfl rfl (by decide) (leb rfl) (by decide) (by decide) (fun Tz112 hz112 vz112 Xz112 qz112 => ?_) (fun _ _ q => Nat.le_of_eq (congrArg Array.size q.1))
                obtain ⟨rfl, rfl⟩ := qz112
                refine r_top (v' := 1) (if_pos (own_inf Iv k2 (by simp))) ?_
                refine r_ifne Xz112 cx L_257 (fun _ => ?_) (fun c => absurd c (by decide))
                refine r_iload Xz112 cx L_263 rfl ?_
                refine r_zreturn Xz112 cx L_265 (by decide) (by decide) ?_
                rfl
          · exact absurd (by rw [c155]; simp) ni_k1
        · have in_k2 := (own_step Iv (by simp) p_k2).2 eB
          refine r_aload Xz105 cx L_120 rfl ?_
          refine r_virtual [] [] Xz105 cx L_122 B.1 (hw.get 23 rfl) (hw.get 24 rfl) (hw.get 26 rfl) (hw.get 25 rfl) (hw.get 3 rfl) (hw.get 27 rfl) (by decide) (con_P27m4_2 K.l K.Z a0 hw o hz105 K.n0 Xz105.ge ak ac ksz104 csz105 B Iv.1 Iv.2.2.2) (lenOf pd_6 rfl) rfl rfl (by decide) (leb rfl) (by decide) (by decide) (fun Tz106 hz106 vz106 Xz106 qz106 => ?_) (fun _ _ q => q.1)
          obtain ⟨zz106, ra, rfl, A_ra⟩ := qz106
          have hrl : (own_f ksz104).length = 2 := Iv.2.2.2
          refine r_astore #[.val (.long i0), .second, .val (.long i1), .second, .val (.long i2), .second, .val (.long i3), .second, .val (.int i4), .val (.long k0), .second, .val (.long k1), .second, .val (.long k2), .second, .val (.int (3 : Int32)), .val (.ref o), .val (.ref ra), .unset, .unset] Xz106 cx L_125 rfl ?_
          refine r_iload Xz106 cx L_127 rfl ?_
          refine r_ifne Xz106 cx L_129 (fun _ => ?_) (fun c => absurd c (by decide))
          refine r_iload Xz106 cx L_138 rfl ?_
          refine r_iconst (1) Xz106 cx L_140 rfl ?_
          refine r_icmpne Xz106 cx L_141 (fun _ => ?_) (fun c => absurd c (by decide))
          refine r_lload Xz106 cx L_150 rfl ?_
          refine r_lload Xz106 cx L_152 rfl ?_
          refine r_lcmp Xz106 cx L_154 ?_
          refine r_lcmpne Xz106 cx L_155 (fun c155 => ?_) (fun c155 => ?_)
          · refine r_iconst (2) Xz106 cx L_162 rfl ?_
            refine r_istore (fun zz => #[.val (.long i0), .second, .val (.long i1), .second, .val (.long i2), .second, .val (.long i3), .second, .val (.int i4), .val (.long k0), .second, .val (.long k1), .second, .val (.long k2), .second, .val (.int (3 : Int32)), .val (.ref o), .val (.ref ra), .val (.int zz), .unset]) Xz106 cx L_163 (fun _ => rfl) (fun iz107 e_iz107 => ?_)
            subst e_iz107
            refine r_iload Xz106 cx L_165 rfl ?_
            refine r_iconst (3) Xz106 cx L_167 rfl ?_
            refine r_icmpne Xz106 cx L_168 (fun c => absurd c (by decide)) (fun _ => ?_)
            refine r_lload Xz106 cx L_171 rfl ?_
            refine r_lload Xz106 cx L_173 rfl ?_
            refine r_lcmp Xz106 cx L_175 ?_
            refine r_lcmpeq Xz106 cx L_176 (fun c176 => ?_) (fun c176 => ?_)
            · refine r_aload Xz106 cx L_193 rfl ?_
              refine r_alenJ Xz106 cx L_195 A_ra (2) hrl ?_
              refine r_iload Xz106 cx L_196 rfl ?_
              refine r_icmpeq Xz106 cx L_198 (fun _ => ?_) (fun c => absurd c (by decide))
              refine r_iconst (1) Xz106 cx L_203 rfl ?_
              refine r_istore (fun zz => #[.val (.long i0), .second, .val (.long i1), .second, .val (.long i2), .second, .val (.long i3), .second, .val (.int i4), .val (.long k0), .second, .val (.long k1), .second, .val (.long k2), .second, .val (.int (3 : Int32)), .val (.ref o), .val (.ref ra), .val (.int (2 : Int32)), .val (.int zz)]) Xz106 cx L_204 (fun _ => rfl) (fun iz108 e_iz108 => ?_)
              subst e_iz108
              refine r_iload Xz106 cx L_206 rfl ?_
              refine r_iconst (1) Xz106 cx L_208 rfl ?_
              refine r_icmplt Xz106 cx L_209 (fun c => absurd c (by decide)) (fun _ => ?_)
              refine r_aload Xz106 cx L_212 rfl ?_
              refine r_lload Xz106 cx L_214 rfl ?_
              refine r_static [(.ref ra), (.long k0)] [] Xz106 cx L_216 (hw.get 48 rfl) (hw.get 49 rfl) (hw.get 50 rfl) (hw.get 51 rfl) (by decide) (con_H3 K.l K.Z a0 hw ra k0 hz106 K.n0 Xz106.ge (own_f ksz104) A_ra (by rw [hrl]; decide)) (lenOf pd_8 rfl) rfl rfl (by decide) (leb rfl) (by decide) (by decide) (fun Tz109 hz109 vz109 Xz109 qz109 => ?_) (fun _ _ q => Nat.le_of_eq (congrArg Array.size q.1))
              obtain ⟨rfl, rfl⟩ := qz109
              refine r_top (v' := 1) (if_pos (own_inf Iv k0 (by simp))) ?_
              refine r_ifne Xz109 cx L_219 (fun _ => ?_) (fun c => absurd c (by decide))
              refine r_iload Xz109 cx L_225 rfl ?_
              refine r_iconst (2) Xz109 cx L_227 rfl ?_
              refine r_icmplt Xz109 cx L_228 (fun c => absurd c (by decide)) (fun _ => ?_)
              refine r_aload Xz109 cx L_231 rfl ?_
              refine r_lload Xz109 cx L_233 rfl ?_
              refine r_static [(.ref ra), (.long k1)] [] Xz109 cx L_235 (hw.get 48 rfl) (hw.get 49 rfl) (hw.get 50 rfl) (hw.get 51 rfl) (by decide) (con_H3 K.l K.Z a0 hw ra k1 hz106 K.n0 Xz109.ge (own_f ksz104) A_ra (by rw [hrl]; decide)) (lenOf pd_8 rfl) rfl rfl (by decide) (leb rfl) (by decide) (by decide) (fun Tz110 hz110 vz110 Xz110 qz110 => ?_) (fun _ _ q => Nat.le_of_eq (congrArg Array.size q.1))
              obtain ⟨rfl, rfl⟩ := qz110
              refine r_top (v' := 1) (if_pos (own_inf Iv k1 (by simp))) ?_
              refine r_ifne Xz110 cx L_238 (fun _ => ?_) (fun c => absurd c (by decide))
              refine r_iload Xz110 cx L_244 rfl ?_
              refine r_iconst (3) Xz110 cx L_246 rfl ?_
              refine r_icmplt Xz110 cx L_247 (fun c => absurd c (by decide)) (fun _ => ?_)
              refine r_aload Xz110 cx L_250 rfl ?_
              refine r_lload Xz110 cx L_252 rfl ?_
              refine r_static [(.ref ra), (.long k2)] [] Xz110 cx L_254 (hw.get 48 rfl) (hw.get 49 rfl) (hw.get 50 rfl) (hw.get 51 rfl) (by decide) (con_H3 K.l K.Z a0 hw ra k2 hz106 K.n0 Xz110.ge (own_f ksz104) A_ra (by rw [hrl]; decide)) (lenOf pd_8 rfl) rfl rfl (by decide) (leb rfl) (by decide) (by decide) (fun Tz111 hz111 vz111 Xz111 qz111 => ?_) (fun _ _ q => Nat.le_of_eq (congrArg Array.size q.1))
              obtain ⟨rfl, rfl⟩ := qz111
              refine r_top (v' := 1) (if_pos (own_inf Iv k2 (by have := in_k2; simp only [List.mem_cons, List.not_mem_nil, or_false] at this ⊢; first | exact this | exact Or.inl this | (rcases this with h | h; exact Or.inl h; exact Or.inr (Or.inl h))))) ?_
              refine r_ifne Xz111 cx L_257 (fun _ => ?_) (fun c => absurd c (by decide))
              refine r_iload Xz111 cx L_263 rfl ?_
              refine r_zreturn Xz111 cx L_265 (by decide) (by decide) ?_
              rfl
            · refine r_lload Xz106 cx L_179 rfl ?_
              refine r_lload Xz106 cx L_181 rfl ?_
              refine r_lcmp Xz106 cx L_183 ?_
              refine r_lcmpeq Xz106 cx L_184 (fun c184 => ?_) (fun c184 => ?_)
              · refine r_aload Xz106 cx L_193 rfl ?_
                refine r_alenJ Xz106 cx L_195 A_ra (2) hrl ?_
                refine r_iload Xz106 cx L_196 rfl ?_
                refine r_icmpeq Xz106 cx L_198 (fun _ => ?_) (fun c => absurd c (by decide))
                refine r_iconst (1) Xz106 cx L_203 rfl ?_
                refine r_istore (fun zz => #[.val (.long i0), .second, .val (.long i1), .second, .val (.long i2), .second, .val (.long i3), .second, .val (.int i4), .val (.long k0), .second, .val (.long k1), .second, .val (.long k2), .second, .val (.int (3 : Int32)), .val (.ref o), .val (.ref ra), .val (.int (2 : Int32)), .val (.int zz)]) Xz106 cx L_204 (fun _ => rfl) (fun iz108 e_iz108 => ?_)
                subst e_iz108
                refine r_iload Xz106 cx L_206 rfl ?_
                refine r_iconst (1) Xz106 cx L_208 rfl ?_
                refine r_icmplt Xz106 cx L_209 (fun c => absurd c (by decide)) (fun _ => ?_)
                refine r_aload Xz106 cx L_212 rfl ?_
                refine r_lload Xz106 cx L_214 rfl ?_
                refine r_static [(.ref ra), (.long k0)] [] Xz106 cx L_216 (hw.get 48 rfl) (hw.get 49 rfl) (hw.get 50 rfl) (hw.get 51 rfl) (by decide) (con_H3 K.l K.Z a0 hw ra k0 hz106 K.n0 Xz106.ge (own_f ksz104) A_ra (by rw [hrl]; decide)) (lenOf pd_8 rfl) rfl rfl (by decide) (leb rfl) (by decide) (by decide) (fun Tz109 hz109 vz109 Xz109 qz109 => ?_) (fun _ _ q => Nat.le_of_eq (congrArg Array.size q.1))
                obtain ⟨rfl, rfl⟩ := qz109
                refine r_top (v' := 1) (if_pos (own_inf Iv k0 (by simp))) ?_
                refine r_ifne Xz109 cx L_219 (fun _ => ?_) (fun c => absurd c (by decide))
                refine r_iload Xz109 cx L_225 rfl ?_
                refine r_iconst (2) Xz109 cx L_227 rfl ?_
                refine r_icmplt Xz109 cx L_228 (fun c => absurd c (by decide)) (fun _ => ?_)
                refine r_aload Xz109 cx L_231 rfl ?_
                refine r_lload Xz109 cx L_233 rfl ?_
                refine r_static [(.ref ra), (.long k1)] [] Xz109 cx L_235 (hw.get 48 rfl) (hw.get 49 rfl) (hw.get 50 rfl) (hw.get 51 rfl) (by decide) (con_H3 K.l K.Z a0 hw ra k1 hz106 K.n0 Xz109.ge (own_f ksz104) A_ra (by rw [hrl]; decide)) (lenOf pd_8 rfl) rfl rfl (by decide) (leb rfl) (by decide) (by decide) (fun Tz110 hz110 vz110 Xz110 qz110 => ?_) (fun _ _ q => Nat.le_of_eq (congrArg Array.size q.1))
                obtain ⟨rfl, rfl⟩ := qz110
                refine r_top (v' := 1) (if_pos (own_inf Iv k1 (by simp))) ?_
                refine r_ifne Xz110 cx L_238 (fun _ => ?_) (fun c => absurd c (by decide))
                refine r_iload Xz110 cx L_244 rfl ?_
                refine r_iconst (3) Xz110 cx L_246 rfl ?_
                refine r_icmplt Xz110 cx L_247 (fun c => absurd c (by decide)) (fun _ => ?_)
                refine r_aload Xz110 cx L_250 rfl ?_
                refine r_lload Xz110 cx L_252 rfl ?_
                refine r_static [(.ref ra), (.long k2)] [] Xz110 cx L_254 (hw.get 48 rfl) (hw.get 49 rfl) (hw.get 50 rfl) (hw.get 51 rfl) (by decide) (con_H3 K.l K.Z a0 hw ra k2 hz106 K.n0 Xz110.ge (own_f ksz104) A_ra (by rw [hrl]; decide)) (lenOf pd_8 rfl) rfl rfl (by decide) (leb rfl) (by decide) (by decide) (fun Tz111 hz111 vz111 Xz111 qz111 => ?_) (fun _ _ q => Nat.le_of_eq (congrArg Array.size q.1))
                obtain ⟨rfl, rfl⟩ := qz111
                refine r_top (v' := 1) (if_pos (own_inf Iv k2 (by have := in_k2; simp only [List.mem_cons, List.not_mem_nil, or_false] at this ⊢; first | exact this | exact Or.inl this | (rcases this with h | h; exact Or.inl h; exact Or.inr (Or.inl h))))) ?_
                refine r_ifne Xz111 cx L_257 (fun _ => ?_) (fun c => absurd c (by decide))
                refine r_iload Xz111 cx L_263 rfl ?_
                refine r_zreturn Xz111 cx L_265 (by decide) (by decide) ?_
                rfl
              · exact absurd in_k2 (by simp [c176, c184])
          · exact absurd (by rw [c155]; simp) ni_k1
      · have in_k1 := (own_step Iv (by simp) p_k1).2 eB
        refine r_iload Xz104 cx L_105 rfl ?_
        refine r_iconst (3) Xz104 cx L_107 rfl ?_
        refine r_icmplt Xz104 cx L_108 (fun c => absurd c (by decide)) (fun _ => ?_)
        refine r_aload Xz104 cx L_111 rfl ?_
        refine r_lload Xz104 cx L_113 rfl ?_
        refine r_lload Xz104 cx L_115 rfl ?_
        obtain ⟨jfz105, hjz105, hfz105⟩ := own_free Iv (by simp)
        have hsz105 := own_stop (k := k2) (own_hl k2) hjz105 hfz105
        refine r_virtual [(.long k2), (.long i3)] [] Xz104 cx L_117 B.1 (hw.get 30 rfl) (hw.get 31 rfl) (hw.get 33 rfl) (hw.get 32 rfl) (hw.get 3 rfl) (hw.get 34 rfl) (by decide) (con_P27m2_1 K.l K.Z a0 hw o k2 i3 hz104 K.n0 Xz104.ge ak ac ksz103 csz104 (own_pr 16 ksz103 k2 (own_hash k2)) B Iv.1 hcl p_k2 rfl hsz105) (lenOf pd_7 rfl) rfl rfl (by decide) (leb rfl) (by decide) (by decide) (fun Tz105 hz105 vz105 Xz105 qz105 => ?_) (fun _ _ q => q.1)
        obtain ⟨zz105, rfl, csz105, hcl, B⟩ := qz105
        rcases B with ⟨eB, B⟩ | ⟨eB, B⟩
        · obtain ⟨ni_k2, Iv⟩ := (own_step Iv (by simp) p_k2).1 eB
          obtain ⟨ksz105, eksz105⟩ : ∃ z, z = ksz103.set (own_pr 16 ksz103 k2 (own_hash k2)) k2 := ⟨_, rfl⟩
          rw [← eksz105] at B Iv
          replace Iv : own_inv ksz105 [k0, k2] := Iv
          refine r_aload Xz105 cx L_120 rfl ?_
          refine r_virtual [] [] Xz105 cx L_122 B.1 (hw.get 23 rfl) (hw.get 24 rfl) (hw.get 26 rfl) (hw.get 25 rfl) (hw.get 3 rfl) (hw.get 27 rfl) (by decide) (con_P27m4_2 K.l K.Z a0 hw o hz105 K.n0 Xz105.ge ak ac ksz105 csz105 B Iv.1 Iv.2.2.2) (lenOf pd_6 rfl) rfl rfl (by decide) (leb rfl) (by decide) (by decide) (fun Tz106 hz106 vz106 Xz106 qz106 => ?_) (fun _ _ q => q.1)
          obtain ⟨zz106, ra, rfl, A_ra⟩ := qz106
          have hrl : (own_f ksz105).length = 2 := Iv.2.2.2
          refine r_astore #[.val (.long i0), .second, .val (.long i1), .second, .val (.long i2), .second, .val (.long i3), .second, .val (.int i4), .val (.long k0), .second, .val (.long k1), .second, .val (.long k2), .second, .val (.int (3 : Int32)), .val (.ref o), .val (.ref ra), .unset, .unset] Xz106 cx L_125 rfl ?_
          refine r_iload Xz106 cx L_127 rfl ?_
          refine r_ifne Xz106 cx L_129 (fun _ => ?_) (fun c => absurd c (by decide))
          refine r_iload Xz106 cx L_138 rfl ?_
          refine r_iconst (1) Xz106 cx L_140 rfl ?_
          refine r_icmpne Xz106 cx L_141 (fun _ => ?_) (fun c => absurd c (by decide))
          refine r_lload Xz106 cx L_150 rfl ?_
          refine r_lload Xz106 cx L_152 rfl ?_
          refine r_lcmp Xz106 cx L_154 ?_
          refine r_lcmpne Xz106 cx L_155 (fun c155 => ?_) (fun c155 => ?_)
          · exact absurd (List.mem_singleton.mp in_k1) c155
          · refine r_iconst (1) Xz106 cx L_158 rfl ?_
            refine r_goto Xz106 cx L_159 ?_
            refine r_istore (fun zz => #[.val (.long i0), .second, .val (.long i1), .second, .val (.long i2), .second, .val (.long i3), .second, .val (.int i4), .val (.long k0), .second, .val (.long k1), .second, .val (.long k2), .second, .val (.int (3 : Int32)), .val (.ref o), .val (.ref ra), .val (.int zz), .unset]) Xz106 cx L_163 (fun _ => rfl) (fun iz107 e_iz107 => ?_)
            subst e_iz107
            refine r_iload Xz106 cx L_165 rfl ?_
            refine r_iconst (3) Xz106 cx L_167 rfl ?_
            refine r_icmpne Xz106 cx L_168 (fun c => absurd c (by decide)) (fun _ => ?_)
            refine r_lload Xz106 cx L_171 rfl ?_
            refine r_lload Xz106 cx L_173 rfl ?_
            refine r_lcmp Xz106 cx L_175 ?_
            refine r_lcmpeq Xz106 cx L_176 (fun c176 => ?_) (fun c176 => ?_)
            · exact absurd (by rw [c176]; simp) ni_k2
            · refine r_lload Xz106 cx L_179 rfl ?_
              refine r_lload Xz106 cx L_181 rfl ?_
              refine r_lcmp Xz106 cx L_183 ?_
              refine r_lcmpeq Xz106 cx L_184 (fun c184 => ?_) (fun c184 => ?_)
              · exact absurd (by rw [c184]; exact in_k1) ni_k2
              · refine r_iload Xz106 cx L_187 rfl ?_
                refine r_iconst (1) Xz106 cx L_189 rfl ?_
                refine r_iadd Xz106 cx L_190 ?_
                refine r_top (v' := 2) (by decide) ?_
                refine r_istore (fun zz => #[.val (.long i0), .second, .val (.long i1), .second, .val (.long i2), .second, .val (.long i3), .second, .val (.int i4), .val (.long k0), .second, .val (.long k1), .second, .val (.long k2), .second, .val (.int (3 : Int32)), .val (.ref o), .val (.ref ra), .val (.int zz), .unset]) Xz106 cx L_191 (fun _ => rfl) (fun iz108 e_iz108 => ?_)
                subst e_iz108
                refine r_aload Xz106 cx L_193 rfl ?_
                refine r_alenJ Xz106 cx L_195 A_ra (2) hrl ?_
                refine r_iload Xz106 cx L_196 rfl ?_
                refine r_icmpeq Xz106 cx L_198 (fun _ => ?_) (fun c => absurd c (by decide))
                refine r_iconst (1) Xz106 cx L_203 rfl ?_
                refine r_istore (fun zz => #[.val (.long i0), .second, .val (.long i1), .second, .val (.long i2), .second, .val (.long i3), .second, .val (.int i4), .val (.long k0), .second, .val (.long k1), .second, .val (.long k2), .second, .val (.int (3 : Int32)), .val (.ref o), .val (.ref ra), .val (.int (2 : Int32)), .val (.int zz)]) Xz106 cx L_204 (fun _ => rfl) (fun iz109 e_iz109 => ?_)
                subst e_iz109
                refine r_iload Xz106 cx L_206 rfl ?_
                refine r_iconst (1) Xz106 cx L_208 rfl ?_
                refine r_icmplt Xz106 cx L_209 (fun c => absurd c (by decide)) (fun _ => ?_)
                refine r_aload Xz106 cx L_212 rfl ?_
                refine r_lload Xz106 cx L_214 rfl ?_
                refine r_static [(.ref ra), (.long k0)] [] Xz106 cx L_216 (hw.get 48 rfl) (hw.get 49 rfl) (hw.get 50 rfl) (hw.get 51 rfl) (by decide) (con_H3 K.l K.Z a0 hw ra k0 hz106 K.n0 Xz106.ge (own_f ksz105) A_ra (by rw [hrl]; decide)) (lenOf pd_8 rfl) rfl rfl (by decide) (leb rfl) (by decide) (by decide) (fun Tz110 hz110 vz110 Xz110 qz110 => ?_) (fun _ _ q => Nat.le_of_eq (congrArg Array.size q.1))
                obtain ⟨rfl, rfl⟩ := qz110
                refine r_top (v' := 1) (if_pos (own_inf Iv k0 (by simp))) ?_
                refine r_ifne Xz110 cx L_219 (fun _ => ?_) (fun c => absurd c (by decide))
                refine r_iload Xz110 cx L_225 rfl ?_
                refine r_iconst (2) Xz110 cx L_227 rfl ?_
                refine r_icmplt Xz110 cx L_228 (fun c => absurd c (by decide)) (fun _ => ?_)
                refine r_aload Xz110 cx L_231 rfl ?_
                refine r_lload Xz110 cx L_233 rfl ?_
                refine r_static [(.ref ra), (.long k1)] [] Xz110 cx L_235 (hw.get 48 rfl) (hw.get 49 rfl) (hw.get 50 rfl) (hw.get 51 rfl) (by decide) (con_H3 K.l K.Z a0 hw ra k1 hz106 K.n0 Xz110.ge (own_f ksz105) A_ra (by rw [hrl]; decide)) (lenOf pd_8 rfl) rfl rfl (by decide) (leb rfl) (by decide) (by decide) (fun Tz111 hz111 vz111 Xz111 qz111 => ?_) (fun _ _ q => Nat.le_of_eq (congrArg Array.size q.1))
                obtain ⟨rfl, rfl⟩ := qz111
                refine r_top (v' := 1) (if_pos (own_inf Iv k1 (by have := in_k1; simp only [List.mem_cons, List.not_mem_nil, or_false] at this ⊢; first | exact this | exact Or.inl this | (rcases this with h | h; exact Or.inl h; exact Or.inr (Or.inl h))))) ?_
                refine r_ifne Xz111 cx L_238 (fun _ => ?_) (fun c => absurd c (by decide))
                refine r_iload Xz111 cx L_244 rfl ?_
                refine r_iconst (3) Xz111 cx L_246 rfl ?_
                refine r_icmplt Xz111 cx L_247 (fun c => absurd c (by decide)) (fun _ => ?_)
                refine r_aload Xz111 cx L_250 rfl ?_
                refine r_lload Xz111 cx L_252 rfl ?_
                refine r_static [(.ref ra), (.long k2)] [] Xz111 cx L_254 (hw.get 48 rfl) (hw.get 49 rfl) (hw.get 50 rfl) (hw.get 51 rfl) (by decide) (con_H3 K.l K.Z a0 hw ra k2 hz106 K.n0 Xz111.ge (own_f ksz105) A_ra (by rw [hrl]; decide)) (lenOf pd_8 rfl) rfl rfl (by decide) (leb rfl) (by decide) (by decide) (fun Tz112 hz112 vz112 Xz112 qz112 => ?_) (fun _ _ q => Nat.le_of_eq (congrArg Array.size q.1))
                obtain ⟨rfl, rfl⟩ := qz112
                refine r_top (v' := 1) (if_pos (own_inf Iv k2 (by simp))) ?_
                refine r_ifne Xz112 cx L_257 (fun _ => ?_) (fun c => absurd c (by decide))
                refine r_iload Xz112 cx L_263 rfl ?_
                refine r_zreturn Xz112 cx L_265 (by decide) (by decide) ?_
                rfl
        · have in_k2 := (own_step Iv (by simp) p_k2).2 eB
          refine r_aload Xz105 cx L_120 rfl ?_
          refine r_virtual [] [] Xz105 cx L_122 B.1 (hw.get 23 rfl) (hw.get 24 rfl) (hw.get 26 rfl) (hw.get 25 rfl) (hw.get 3 rfl) (hw.get 27 rfl) (by decide) (con_P27m4_1 K.l K.Z a0 hw o hz105 K.n0 Xz105.ge ak ac ksz103 csz105 B Iv.1 Iv.2.2.2) (lenOf pd_6 rfl) rfl rfl (by decide) (leb rfl) (by decide) (by decide) (fun Tz106 hz106 vz106 Xz106 qz106 => ?_) (fun _ _ q => q.1)
          obtain ⟨zz106, ra, rfl, A_ra⟩ := qz106
          have hrl : (own_f ksz103).length = 1 := Iv.2.2.2
          refine r_astore #[.val (.long i0), .second, .val (.long i1), .second, .val (.long i2), .second, .val (.long i3), .second, .val (.int i4), .val (.long k0), .second, .val (.long k1), .second, .val (.long k2), .second, .val (.int (3 : Int32)), .val (.ref o), .val (.ref ra), .unset, .unset] Xz106 cx L_125 rfl ?_
          refine r_iload Xz106 cx L_127 rfl ?_
          refine r_ifne Xz106 cx L_129 (fun _ => ?_) (fun c => absurd c (by decide))
          refine r_iload Xz106 cx L_138 rfl ?_
          refine r_iconst (1) Xz106 cx L_140 rfl ?_
          refine r_icmpne Xz106 cx L_141 (fun _ => ?_) (fun c => absurd c (by decide))
          refine r_lload Xz106 cx L_150 rfl ?_
          refine r_lload Xz106 cx L_152 rfl ?_
          refine r_lcmp Xz106 cx L_154 ?_
          refine r_lcmpne Xz106 cx L_155 (fun c155 => ?_) (fun c155 => ?_)
          · exact absurd (List.mem_singleton.mp in_k1) c155
          · refine r_iconst (1) Xz106 cx L_158 rfl ?_
            refine r_goto Xz106 cx L_159 ?_
            refine r_istore (fun zz => #[.val (.long i0), .second, .val (.long i1), .second, .val (.long i2), .second, .val (.long i3), .second, .val (.int i4), .val (.long k0), .second, .val (.long k1), .second, .val (.long k2), .second, .val (.int (3 : Int32)), .val (.ref o), .val (.ref ra), .val (.int zz), .unset]) Xz106 cx L_163 (fun _ => rfl) (fun iz107 e_iz107 => ?_)
            subst e_iz107
            refine r_iload Xz106 cx L_165 rfl ?_
            refine r_iconst (3) Xz106 cx L_167 rfl ?_
            refine r_icmpne Xz106 cx L_168 (fun c => absurd c (by decide)) (fun _ => ?_)
            refine r_lload Xz106 cx L_171 rfl ?_
            refine r_lload Xz106 cx L_173 rfl ?_
            refine r_lcmp Xz106 cx L_175 ?_
            refine r_lcmpeq Xz106 cx L_176 (fun c176 => ?_) (fun c176 => ?_)
            · refine r_aload Xz106 cx L_193 rfl ?_
              refine r_alenJ Xz106 cx L_195 A_ra (1) hrl ?_
              refine r_iload Xz106 cx L_196 rfl ?_
              refine r_icmpeq Xz106 cx L_198 (fun _ => ?_) (fun c => absurd c (by decide))
              refine r_iconst (1) Xz106 cx L_203 rfl ?_
              refine r_istore (fun zz => #[.val (.long i0), .second, .val (.long i1), .second, .val (.long i2), .second, .val (.long i3), .second, .val (.int i4), .val (.long k0), .second, .val (.long k1), .second, .val (.long k2), .second, .val (.int (3 : Int32)), .val (.ref o), .val (.ref ra), .val (.int (1 : Int32)), .val (.int zz)]) Xz106 cx L_204 (fun _ => rfl) (fun iz108 e_iz108 => ?_)
              subst e_iz108
              refine r_iload Xz106 cx L_206 rfl ?_
              refine r_iconst (1) Xz106 cx L_208 rfl ?_
              refine r_icmplt Xz106 cx L_209 (fun c => absurd c (by decide)) (fun _ => ?_)
              refine r_aload Xz106 cx L_212 rfl ?_
              refine r_lload Xz106 cx L_214 rfl ?_
              refine r_static [(.ref ra), (.long k0)] [] Xz106 cx L_216 (hw.get 48 rfl) (hw.get 49 rfl) (hw.get 50 rfl) (hw.get 51 rfl) (by decide) (con_H3 K.l K.Z a0 hw ra k0 hz106 K.n0 Xz106.ge (own_f ksz103) A_ra (by rw [hrl]; decide)) (lenOf pd_8 rfl) rfl rfl (by decide) (leb rfl) (by decide) (by decide) (fun Tz109 hz109 vz109 Xz109 qz109 => ?_) (fun _ _ q => Nat.le_of_eq (congrArg Array.size q.1))
              obtain ⟨rfl, rfl⟩ := qz109
              refine r_top (v' := 1) (if_pos (own_inf Iv k0 (by simp))) ?_
              refine r_ifne Xz109 cx L_219 (fun _ => ?_) (fun c => absurd c (by decide))
              refine r_iload Xz109 cx L_225 rfl ?_
              refine r_iconst (2) Xz109 cx L_227 rfl ?_
              refine r_icmplt Xz109 cx L_228 (fun c => absurd c (by decide)) (fun _ => ?_)
              refine r_aload Xz109 cx L_231 rfl ?_
              refine r_lload Xz109 cx L_233 rfl ?_
              refine r_static [(.ref ra), (.long k1)] [] Xz109 cx L_235 (hw.get 48 rfl) (hw.get 49 rfl) (hw.get 50 rfl) (hw.get 51 rfl) (by decide) (con_H3 K.l K.Z a0 hw ra k1 hz106 K.n0 Xz109.ge (own_f ksz103) A_ra (by rw [hrl]; decide)) (lenOf pd_8 rfl) rfl rfl (by decide) (leb rfl) (by decide) (by decide) (fun Tz110 hz110 vz110 Xz110 qz110 => ?_) (fun _ _ q => Nat.le_of_eq (congrArg Array.size q.1))
              obtain ⟨rfl, rfl⟩ := qz110
              refine r_top (v' := 1) (if_pos (own_inf Iv k1 (by have := in_k1; simp only [List.mem_cons, List.not_mem_nil, or_false] at this ⊢; first | exact this | exact Or.inl this | (rcases this with h | h; exact Or.inl h; exact Or.inr (Or.inl h))))) ?_
              refine r_ifne Xz110 cx L_238 (fun _ => ?_) (fun c => absurd c (by decide))
              refine r_iload Xz110 cx L_244 rfl ?_
              refine r_iconst (3) Xz110 cx L_246 rfl ?_
              refine r_icmplt Xz110 cx L_247 (fun c => absurd c (by decide)) (fun _ => ?_)
              refine r_aload Xz110 cx L_250 rfl ?_
              refine r_lload Xz110 cx L_252 rfl ?_
              refine r_static [(.ref ra), (.long k2)] [] Xz110 cx L_254 (hw.get 48 rfl) (hw.get 49 rfl) (hw.get 50 rfl) (hw.get 51 rfl) (by decide) (con_H3 K.l K.Z a0 hw ra k2 hz106 K.n0 Xz110.ge (own_f ksz103) A_ra (by rw [hrl]; decide)) (lenOf pd_8 rfl) rfl rfl (by decide) (leb rfl) (by decide) (by decide) (fun Tz111 hz111 vz111 Xz111 qz111 => ?_) (fun _ _ q => Nat.le_of_eq (congrArg Array.size q.1))
              obtain ⟨rfl, rfl⟩ := qz111
              refine r_top (v' := 1) (if_pos (own_inf Iv k2 (by have := in_k2; simp only [List.mem_cons, List.not_mem_nil, or_false] at this ⊢; first | exact this | exact Or.inl this | (rcases this with h | h; exact Or.inl h; exact Or.inr (Or.inl h))))) ?_
              refine r_ifne Xz111 cx L_257 (fun _ => ?_) (fun c => absurd c (by decide))
              refine r_iload Xz111 cx L_263 rfl ?_
              refine r_zreturn Xz111 cx L_265 (by decide) (by decide) ?_
              rfl
            · exact absurd (List.mem_singleton.mp in_k2) c176
    · have in_k0 := (own_step Iv (by simp) hk0).2 eB
      exact absurd in_k0 List.not_mem_nil
set_option maxRecDepth 65536 in
set_option maxHeartbeats 40000000 in
theorem comes_1 {Post : Tables → Env → Array Value → State → Outcome → State → Prop} (hpost : ∀ tb e args s v u, (limb_1_1.after args s (.returned v) u = true ∧ limb_1_2.after args s (.returned v) u = true ∧ True) → FrameEnd s (.returned v) u (Jvm.fieldLocs frame_1_writes args s ++ Jvm.arrayLocs frame_1_arrays args s ++ Jvm.staticLocs frame_1_statics s) 16 192 → Post tb e args s (.returned v) u) :
    ArmFor flags0 classFile x code maxLocals ret World_1 tables_1 room_1 Calls_1 rest_1 Pre_1 Post := by
  intro l hfl _ _ p e ha hc hk s m args below hf hA hF happ hP
  obtain ⟨hcalls, hrest, hpre⟩ := hP
  obtain ⟨-, -, -, hnamed, -, -, -, hat⟩ := (Spec.applies_iff hf).mp happ
  obtain ⟨hg, hn⟩ := and_e (Cond.before_iff.mp (show (Jvm.Cond.and given_1 narrow_1).before args s = true from hpre))
  obtain ⟨gc, r0⟩ := and_e hg
  obtain ⟨g0, r1⟩ := and_e r0
  obtain ⟨g1, r2⟩ := and_e r1
  obtain ⟨g2, r3⟩ := and_e r2
  obtain ⟨g3, r4⟩ := and_e r3
  obtain ⟨w0, w1, w2, w3, w4, rfl⟩ : ∃ w0 w1 w2 w3 w4 : Value, args = #[w0, w1, w2, w3, w4] := by
    have hs : args.size = 5 := by simpa [Cond.value, given_1] using gc
    obtain ⟨L⟩ := args
    match L, hs with
    | [w0, w1, w2, w3, w4], _ => exact ⟨w0, w1, w2, w3, w4, rfl⟩
  have hw : Tb tables_1 #[w0, w1, w2, w3, w4] s := fun d (hd : d ∈ tables_1) => atoms_spec (ws := Jvm.Cond.code x code maxLocals ret :: tables_1) hat d (List.mem_cons_of_mem _ hd)
  obtain ⟨i0, ei0⟩ := isL_v g0
  obtain rfl : w0 = (.long i0) := Option.some.inj ei0
  obtain ⟨i1, ei1⟩ := isL_v g1
  obtain rfl : w1 = (.long i1) := Option.some.inj ei1
  obtain ⟨i2, ei2⟩ := isL_v g2
  obtain rfl : w2 = (.long i2) := Option.some.inj ei2
  obtain ⟨i3, ei3⟩ := isL_v g3
  obtain rfl : w3 = (.long i3) := Option.some.inj ei3
  obtain ⟨i4, ei4⟩ := is_v r4
  obtain rfl : w4 = (.int i4) := Option.some.inj ei4
  obtain ⟨n, o, h1, h2, h3, _, L, rfl, ⟨rfl, N⟩, hq⟩ := con_L l s _ hw i0 i1 i2 i3 i4 s.heap s.heap.size (Nat.le_refl _) tables_1 p e ha hc hk s m _ below hf ((Spec.applies_iff_loose hf).mp happ).1 ⟨rfl, State.Warmed39.refl s, rfl⟩ trivial
  refine ⟨n, _, h1, h2, h3, hpost _ _ _ _ _ _ ⟨Cond.after_iff.mpr rfl, Cond.after_iff.mpr (eq_i res_at (Term.int_eval (1)) rfl), trivial⟩ ⟨hq.1, hq.2.1, (hq.2.2.sift fun y hy => Or.inr (N y hy)).mono (by decide) (by decide)⟩⟩
theorem main_1_1 : Claimed_1_1 := comes_1 fun _ _ _ _ _ _ h hF => ⟨h.1, hF⟩
theorem main_1_2 : Claimed_1_2 := comes_1 fun _ _ _ _ _ _ h hF => ⟨h.2.1, hF⟩
end Jvm.Pilot.@@N@@
namespace Jvm.Pilot.@@N@@
open Jvm Jvm.ClassFile Sem Op Lib Jvm.Free Jvm.Stand Jvm.Pilot.@@N@@.Jvm.D
/-! MADE BY PROGRAM (witnessworld.py) out of the Statement's table words and the real class files: 18 classes; the members and pool entries that the words name. The judged class is class 1, her method 1. -/
namespace start1
open Jvm.ClassFile
def u (s : String) : CpInfo := .utf8 (stringToUtf16 s)
/-- a pool by its gaps: so many unusable entries, then the entry; so many at the end -/
def gap : Nat → List CpInfo → List CpInfo
  | 0, r => r
  | n + 1, r => .unusable :: gap n r
def poolList (es : List (Nat × CpInfo)) (last : Nat) : List CpInfo := es.foldr (fun e r => gap e.1 (e.2 :: r)) (gap last [])
def pool (es : List (Nat × CpInfo)) (last : Nat) : Array CpInfo := ⟨poolList es last⟩
def fileOf (pool : Array CpInfo) (this : Nat) (attrs : Array Attribute := #[]) (ms : Array MethodInfo := #[]) (fl : Nat := 33) (sup : Nat := 0) (ifs : Array Nat := #[]) (fds : Array FieldInfo := #[]) : ClassFile where
  minorVersion := 0
  majorVersion := 65
  constantPool := pool
  accessFlags := fl
  thisClass := this
  superClass := sup
  interfaces := ifs
  fields := fds
  methods := ms
  attributes := attrs
def plain (name : String) (sup : Option ClassId) : Class where
  name := name
  kind := .ordinary
  loader := none
  accessFlags := 33
  super := sup
  interfaces := #[]
  cf := none
  fields := #[]
  methods := #[]
  instanceTypes := #[]
  staticTypes := #[]
  resolved := #[]
  callSites := []
  init := .initialized
  statics := none
  mirror := none

def pool0 : Array CpInfo := pool [(5, u "<init>"), (0, u "()V"), (1, .class_ 10), (1, u "java/lang/Object")] 113

def k0c0 : Code := { maxStack := 0, maxLocals := 1, code := object_method_1_code, exceptionTable := #[], attributes := #[] }
def k0m0 : Method := { name := "<init>", desc := "()V", sig := { parameters := [], returnType := none }, accessFlags := 1, code := some k0c0 }
/-- java/lang/Object -/
def k0 : Class := { plain "java/lang/Object" none with
  accessFlags := 33
  interfaces := #[]
  cf := some (fileOf pool0 8 #[] #[{ accessFlags := 1, nameIndex := 5, descriptorIndex := 6, attributes := #[] }] 33 0 #[] #[])
  fields := #[]
  methods := #[k0m0]
  instanceTypes := #[]
  staticTypes := #[]
  resolved := Array.replicate 124 none
  statics := none }

def pool1 : Array CpInfo := pool [(2, .class_ 4), (0, .nameAndType 5 6), (0, u "java/lang/Object"), (0, u "<init>"), (0, u "()V"), (2, .long 9223372036854775807), (1, .class_ 12), (0, u "com/example/dipper/dipper/model/LongCounts"), (0, .methodref 11 3), (0, .methodref 11 15), (0, .nameAndType 16 17), (0, u "add"), (0, u "(JJ)V"), (0, .methodref 11 19), (0, .nameAndType 20 21), (0, u "keys"), (0, u "()[J"), (0, .methodref 23 24), (0, .class_ 25), (0, .nameAndType 26 27), (0, u "com/example/dipper/dipper/model/LongCountsKeysPinLaw"), (0, u "contains"), (0, u "([JJ)Z"), (2, u "law"), (0, u "(JJJJI)Z")] 5

def k1m0 : Method := { name := "<init>", desc := "()V", sig := { parameters := [], returnType := none }, accessFlags := 1, code := none }
def k1c1 : Code := { maxStack := 5, maxLocals := 20, code := code, exceptionTable := #[], attributes := #[] }
def k1m1 : Method := { name := "law", desc := "(JJJJI)Z", sig := { parameters := [.long, .long, .long, .long, .int], returnType := some .boolean }, accessFlags := 9, code := some k1c1 }
def k1c2 : Code := { maxStack := 4, maxLocals := 3, code := method_3_code, exceptionTable := #[], attributes := #[] }
def k1m2 : Method := { name := "contains", desc := "([JJ)Z", sig := { parameters := [(.array .long), .long], returnType := some .boolean }, accessFlags := 10, code := some k1c2 }
/-- com/example/dipper/dipper/model/LongCountsKeysPinLaw -/
def k1 : Class := { plain "com/example/dipper/dipper/model/LongCountsKeysPinLaw" (some 0) with
  accessFlags := 49
  interfaces := #[]
  cf := some (fileOf pool1 23 #[] #[{ accessFlags := 1, nameIndex := 5, descriptorIndex := 6, attributes := #[] }, { accessFlags := 9, nameIndex := 30, descriptorIndex := 31, attributes := #[] }, { accessFlags := 10, nameIndex := 26, descriptorIndex := 27, attributes := #[] }] 49 2 #[] #[])
  fields := #[]
  methods := #[k1m0, k1m1, k1m2]
  instanceTypes := #[]
  staticTypes := #[]
  resolved := Array.replicate 37 none
  statics := none }

def pool2 : Array CpInfo := pool [(1, .methodref 2 3), (0, .class_ 4), (0, .nameAndType 5 6), (0, u "java/lang/Object"), (0, u "<init>"), (0, u "()V"), (0, .methodref 8 9), (0, .class_ 10), (0, .nameAndType 11 12), (0, u "com/example/dipper/dipper/model/LongCounts"), (0, u "newKeys"), (0, u "(I)[J"), (0, .fieldref 8 14), (0, .nameAndType 15 16), (0, u "keys"), (0, u "[J"), (0, .fieldref 8 18), (0, .nameAndType 19 16), (0, u "counts"), (0, .methodref 8 21), (0, .nameAndType 22 23), (0, u "slot"), (0, u "([JJ)I"), (0, .long 18446744073709551615), (1, .fieldref 8 27), (0, .nameAndType 28 29), (0, u "size"), (0, u "I"), (3, .long 11400714819323198485), (1, .methodref 36 37), (0, .class_ 38), (0, .nameAndType 39 40), (0, u "java/lang/Long"), (0, u "numberOfLeadingZeros"), (0, u "(J)I"), (0, .methodref 42 43), (0, .class_ 44), (0, .nameAndType 45 46), (0, u "java/util/Arrays"), (0, u "fill"), (0, u "([JJ)V"), (0, u "FREE"), (0, u "J"), (3, u "add"), (0, u "(JJ)V"), (3, u "()[J")] 3

def k2c0 : Code := { maxStack := 2, maxLocals := 1, code := prog_27_method_1_code, exceptionTable := #[], attributes := #[] }
def k2m0 : Method := { name := "<init>", desc := "()V", sig := { parameters := [], returnType := none }, accessFlags := 0, code := some k2c0 }
def k2c1 : Code := { maxStack := 6, maxLocals := 6, code := prog_27_method_2_code, exceptionTable := #[], attributes := #[] }
def k2m1 : Method := { name := "add", desc := "(JJ)V", sig := { parameters := [.long, .long], returnType := none }, accessFlags := 0, code := some k2c1 }
def k2c2 : Code := { maxStack := 4, maxLocals := 8, code := prog_27_method_4_code, exceptionTable := #[], attributes := #[] }
def k2m2 : Method := { name := "keys", desc := "()[J", sig := { parameters := [], returnType := some (.array .long) }, accessFlags := 0, code := some k2c2 }
def k2c3 : Code := { maxStack := 4, maxLocals := 5, code := prog_27_method_5_code, exceptionTable := #[], attributes := #[] }
def k2m3 : Method := { name := "slot", desc := "([JJ)I", sig := { parameters := [(.array .long), .long], returnType := some .int }, accessFlags := 10, code := some k2c3 }
def k2c4 : Code := { maxStack := 3, maxLocals := 2, code := prog_27_method_7_code, exceptionTable := #[], attributes := #[] }
def k2m4 : Method := { name := "newKeys", desc := "(I)[J", sig := { parameters := [.int], returnType := some (.array .long) }, accessFlags := 10, code := some k2c4 }
/-- com/example/dipper/dipper/model/LongCounts -/
def k2 : Class := { plain "com/example/dipper/dipper/model/LongCounts" (some 0) with
  accessFlags := 48
  interfaces := #[]
  cf := some (fileOf pool2 8 #[] #[{ accessFlags := 0, nameIndex := 5, descriptorIndex := 6, attributes := #[] }, { accessFlags := 0, nameIndex := 52, descriptorIndex := 53, attributes := #[] }, { accessFlags := 0, nameIndex := 15, descriptorIndex := 57, attributes := #[] }, { accessFlags := 10, nameIndex := 22, descriptorIndex := 23, attributes := #[] }, { accessFlags := 10, nameIndex := 11, descriptorIndex := 12, attributes := #[] }] 48 2 #[] #[{ accessFlags := 26, nameIndex := 47, descriptorIndex := 48, attributes := #[] }, { accessFlags := 2, nameIndex := 15, descriptorIndex := 16, attributes := #[] }, { accessFlags := 2, nameIndex := 19, descriptorIndex := 16, attributes := #[] }, { accessFlags := 2, nameIndex := 28, descriptorIndex := 29, attributes := #[] }])
  fields := #[{ name := "FREE", type := .long, accessFlags := 26, slot := 0, constantValue := 0 }, { name := "keys", type := (.array .long), accessFlags := 2, slot := 0, constantValue := 0 }, { name := "counts", type := (.array .long), accessFlags := 2, slot := 1, constantValue := 0 }, { name := "size", type := .int, accessFlags := 2, slot := 2, constantValue := 0 }]
  methods := #[k2m0, k2m1, k2m2, k2m3, k2m4]
  instanceTypes := #[(.array .long), (.array .long), .int]
  staticTypes := #[.long]
  resolved := Array.replicate 61 none
  statics := none }

def pool3 : Array CpInfo := pool [(2, .class_ 4), (1, u "java/lang/Object"), (0, u "<init>"), (0, u "()V"), (7, .class_ 16), (1, u "java/util/Arrays"), (57, .class_ 76), (1, u "java/util/Arrays$NaturalOrder"), (36, .class_ 115), (1, u "java/util/Arrays$LegacyMergeSort"), (1, u "Z"), (257, .class_ 376), (0, u "java/util/Arrays$ArrayList"), (68, u "$assertionsDisabled"), (269, u "MIN_ARRAY_SORT_GRAN"), (0, u "I"), (2, u "INSERTIONSORT_THRESHOLD"), (120, u "fill"), (0, u "([JJ)V"), (133, .class_ 976), (0, u "java/util/Arrays$ArrayItr")] 52

def k3m0 : Method := { name := "<init>", desc := "()V", sig := { parameters := [], returnType := none }, accessFlags := 2, code := none }
def k3c1 : Code := { maxStack := 4, maxLocals := 5, code := jdk_65_method_101_code, exceptionTable := #[], attributes := #[] }
def k3m1 : Method := { name := "fill", desc := "([JJ)V", sig := { parameters := [(.array .long), .long], returnType := none }, accessFlags := 9, code := some k3c1 }
/-- java/util/Arrays -/
def k3 : Class := { plain "java/util/Arrays" (some 0) with
  accessFlags := 49
  interfaces := #[]
  cf := some (fileOf pool3 14 #[.nestMembers #[975, 375, 113, 74]] #[{ accessFlags := 2, nameIndex := 5, descriptorIndex := 6, attributes := #[] }, { accessFlags := 9, nameIndex := 840, descriptorIndex := 841, attributes := #[] }] 49 2 #[] #[{ accessFlags := 26, nameIndex := 715, descriptorIndex := 716, attributes := #[] }, { accessFlags := 26, nameIndex := 719, descriptorIndex := 716, attributes := #[] }, { accessFlags := 4120, nameIndex := 445, descriptorIndex := 117, attributes := #[] }])
  fields := #[{ name := "MIN_ARRAY_SORT_GRAN", type := .int, accessFlags := 26, slot := 0, constantValue := 0 }, { name := "INSERTIONSORT_THRESHOLD", type := .int, accessFlags := 26, slot := 1, constantValue := 0 }, { name := "$assertionsDisabled", type := .boolean, accessFlags := 4120, slot := 2, constantValue := 0 }]
  methods := #[k3m0, k3m1]
  instanceTypes := #[]
  staticTypes := #[.int, .int, .boolean]
  resolved := Array.replicate 1029 none
  statics := none }

def pool4 : Array CpInfo := pool [(1, .class_ 2), (0, u "java/io/Serializable"), (0, .class_ 4), (0, u "java/lang/Object")] 2

/-- java/io/Serializable -/
def k4 : Class := { plain "java/io/Serializable" (some 0) with
  accessFlags := 1537
  interfaces := #[]
  cf := some (fileOf pool4 1 #[] #[] 1537 3 #[] #[])
  fields := #[]
  methods := #[]
  instanceTypes := #[]
  staticTypes := #[]
  resolved := Array.replicate 7 none
  statics := none }

def pool5 : Array CpInfo := pool [(2, .class_ 4), (1, u "java/lang/Object"), (0, u "<init>"), (0, u "()V"), (1, .class_ 10), (1, u "java/lang/Number"), (2, .class_ 14), (0, u "java/io/Serializable"), (0, u "serialVersionUID"), (0, u "J")] 20

def k5m0 : Method := { name := "<init>", desc := "()V", sig := { parameters := [], returnType := none }, accessFlags := 1, code := none }
/-- java/lang/Number -/
def k5 : Class := { plain "java/lang/Number" (some 0) with
  accessFlags := 1057
  interfaces := #[4]
  cf := some (fileOf pool5 8 #[] #[{ accessFlags := 1, nameIndex := 5, descriptorIndex := 6, attributes := #[] }] 1057 2 #[13] #[{ accessFlags := 26, nameIndex := 15, descriptorIndex := 16, attributes := #[] }])
  fields := #[{ name := "serialVersionUID", type := .long, accessFlags := 26, slot := 0, constantValue := 0 }]
  methods := #[k5m0]
  instanceTypes := #[]
  staticTypes := #[.long]
  resolved := Array.replicate 37 none
  statics := none }

def pool6 : Array CpInfo := pool [(1, .class_ 2), (0, u "java/lang/Comparable"), (0, .class_ 4), (0, u "java/lang/Object")] 7

/-- java/lang/Comparable -/
def k6 : Class := { plain "java/lang/Comparable" (some 0) with
  accessFlags := 1537
  interfaces := #[]
  cf := some (fileOf pool6 1 #[] #[] 1537 3 #[] #[])
  fields := #[]
  methods := #[]
  instanceTypes := #[]
  staticTypes := #[]
  resolved := Array.replicate 12 none
  statics := none }

def pool7 : Array CpInfo := pool [(1, .class_ 2), (0, u "java/lang/constant/Constable"), (0, .class_ 4), (0, u "java/lang/Object")] 6

/-- java/lang/constant/Constable -/
def k7 : Class := { plain "java/lang/constant/Constable" (some 0) with
  accessFlags := 1537
  interfaces := #[]
  cf := some (fileOf pool7 1 #[] #[] 1537 3 #[] #[])
  fields := #[]
  methods := #[]
  instanceTypes := #[]
  staticTypes := #[]
  resolved := Array.replicate 11 none
  statics := none }

def pool8 : Array CpInfo := pool [(1, .class_ 2), (0, u "java/lang/constant/ConstantDesc"), (0, .class_ 4), (0, u "java/lang/Object")] 32

/-- java/lang/constant/ConstantDesc -/
def k8 : Class := { plain "java/lang/constant/ConstantDesc" (some 0) with
  accessFlags := 1537
  interfaces := #[]
  cf := some (fileOf pool8 1 #[] #[] 1537 3 #[] #[])
  fields := #[]
  methods := #[]
  instanceTypes := #[]
  staticTypes := #[]
  resolved := Array.replicate 37 none
  statics := none }

def pool9 : Array CpInfo := pool [(1, .class_ 2), (0, u "java/lang/Long"), (15, .class_ 20), (1, u "java/lang/Integer"), (79, u "numberOfLeadingZeros"), (0, u "(J)I"), (133, .class_ 237), (1, u "java/lang/Long$LongCache"), (33, .class_ 272), (0, u "java/lang/Number"), (2, u "value"), (0, u "J"), (31, .methodref 18 309), (0, .nameAndType 100 310), (0, u "(I)I"), (50, u "TYPE"), (0, u "Ljava/lang/Class;"), (0, .class_ 364), (0, u "java/lang/Comparable"), (0, .class_ 366), (0, u "java/lang/constant/Constable"), (0, .class_ 368), (0, u "java/lang/constant/ConstantDesc"), (0, u "MIN_VALUE"), (1, u "MAX_VALUE"), (4, u "SIZE"), (0, u "I"), (1, u "BYTES"), (1, u "serialVersionUID")] 142

def k9c0 : Code := { maxStack := 3, maxLocals := 3, code := jdk_35_method_48_code, exceptionTable := #[], attributes := #[] }
def k9m0 : Method := { name := "numberOfLeadingZeros", desc := "(J)I", sig := { parameters := [.long], returnType := some .int }, accessFlags := 9, code := some k9c0 }
/-- java/lang/Long -/
def k9 : Class := { plain "java/lang/Long" (some 5) with
  accessFlags := 49
  interfaces := #[6, 7, 8]
  cf := some (fileOf pool9 1 #[.nestMembers #[235]] #[{ accessFlags := 9, nameIndex := 100, descriptorIndex := 101, attributes := #[] }] 49 271 #[363, 365, 367] #[{ accessFlags := 25, nameIndex := 369, descriptorIndex := 276, attributes := #[] }, { accessFlags := 25, nameIndex := 371, descriptorIndex := 276, attributes := #[] }, { accessFlags := 25, nameIndex := 361, descriptorIndex := 362, attributes := #[] }, { accessFlags := 18, nameIndex := 275, descriptorIndex := 276, attributes := #[] }, { accessFlags := 25, nameIndex := 376, descriptorIndex := 377, attributes := #[] }, { accessFlags := 25, nameIndex := 379, descriptorIndex := 377, attributes := #[] }, { accessFlags := 26, nameIndex := 381, descriptorIndex := 276, attributes := #[] }])
  fields := #[{ name := "MIN_VALUE", type := .long, accessFlags := 25, slot := 0, constantValue := 0 }, { name := "MAX_VALUE", type := .long, accessFlags := 25, slot := 1, constantValue := 0 }, { name := "TYPE", type := (.object "java/lang/Class"), accessFlags := 25, slot := 2, constantValue := 0 }, { name := "value", type := .long, accessFlags := 18, slot := 0, constantValue := 0 }, { name := "SIZE", type := .int, accessFlags := 25, slot := 3, constantValue := 0 }, { name := "BYTES", type := .int, accessFlags := 25, slot := 4, constantValue := 0 }, { name := "serialVersionUID", type := .long, accessFlags := 26, slot := 5, constantValue := 0 }]
  methods := #[k9m0]
  instanceTypes := #[.long]
  staticTypes := #[.long, .long, (.object "java/lang/Class"), .int, .int, .long]
  resolved := Array.replicate 524 none
  statics := none }

def pool10 : Array CpInfo := pool [(1, .class_ 2), (0, u "java/lang/Integer"), (16, u "digits"), (0, u "[C"), (32, u "numberOfLeadingZeros"), (0, u "(I)I"), (30, u "DigitOnes"), (0, u "[B"), (2, u "DigitTens"), (99, .class_ 190), (0, u "java/lang/Integer$IntegerCache"), (3, u "I"), (8, .class_ 204), (0, u "java/lang/Number"), (2, u "value"), (56, .integer 65536), (37, u "TYPE"), (0, u "Ljava/lang/Class;"), (0, .class_ 305), (0, u "java/lang/Comparable"), (0, .class_ 307), (0, u "java/lang/constant/Constable"), (0, .class_ 309), (0, u "java/lang/constant/ConstantDesc"), (0, u "MIN_VALUE"), (1, u "MAX_VALUE"), (3, u "SIZE"), (1, u "BYTES"), (1, u "serialVersionUID"), (0, u "J")] 131

def k10c0 : Code := { maxStack := 3, maxLocals := 2, code := jdk_33_method_47_code, exceptionTable := #[], attributes := #[] }
def k10m0 : Method := { name := "numberOfLeadingZeros", desc := "(I)I", sig := { parameters := [.int], returnType := some .int }, accessFlags := 9, code := some k10c0 }
/-- java/lang/Integer -/
def k10 : Class := { plain "java/lang/Integer" (some 5) with
  accessFlags := 49
  interfaces := #[6, 7, 8]
  cf := some (fileOf pool10 1 #[.nestMembers #[189]] #[{ accessFlags := 9, nameIndex := 53, descriptorIndex := 54, attributes := #[] }] 49 203 #[304, 306, 308] #[{ accessFlags := 25, nameIndex := 310, descriptorIndex := 194, attributes := #[] }, { accessFlags := 25, nameIndex := 312, descriptorIndex := 194, attributes := #[] }, { accessFlags := 25, nameIndex := 302, descriptorIndex := 303, attributes := #[] }, { accessFlags := 24, nameIndex := 19, descriptorIndex := 20, attributes := #[] }, { accessFlags := 24, nameIndex := 89, descriptorIndex := 86, attributes := #[] }, { accessFlags := 24, nameIndex := 85, descriptorIndex := 86, attributes := #[] }, { accessFlags := 18, nameIndex := 207, descriptorIndex := 194, attributes := #[] }, { accessFlags := 25, nameIndex := 316, descriptorIndex := 194, attributes := #[] }, { accessFlags := 25, nameIndex := 318, descriptorIndex := 194, attributes := #[] }, { accessFlags := 26, nameIndex := 320, descriptorIndex := 321, attributes := #[] }])
  fields := #[{ name := "MIN_VALUE", type := .int, accessFlags := 25, slot := 0, constantValue := 0 }, { name := "MAX_VALUE", type := .int, accessFlags := 25, slot := 1, constantValue := 0 }, { name := "TYPE", type := (.object "java/lang/Class"), accessFlags := 25, slot := 2, constantValue := 0 }, { name := "digits", type := (.array .char), accessFlags := 24, slot := 3, constantValue := 0 }, { name := "DigitTens", type := (.array .byte), accessFlags := 24, slot := 4, constantValue := 0 }, { name := "DigitOnes", type := (.array .byte), accessFlags := 24, slot := 5, constantValue := 0 }, { name := "value", type := .int, accessFlags := 18, slot := 0, constantValue := 0 }, { name := "SIZE", type := .int, accessFlags := 25, slot := 6, constantValue := 0 }, { name := "BYTES", type := .int, accessFlags := 25, slot := 7, constantValue := 0 }, { name := "serialVersionUID", type := .long, accessFlags := 26, slot := 8, constantValue := 0 }]
  methods := #[k10m0]
  instanceTypes := #[.int]
  staticTypes := #[.int, .int, (.object "java/lang/Class"), (.array .char), (.array .byte), (.array .byte), .int, .int, .long]
  resolved := Array.replicate 453 none
  statics := none }

def pool11 : Array CpInfo := pool [(1, u "java/lang/Cloneable"), (0, .class_ 1), (0, u "java/lang/Object"), (0, .class_ 3)] 3

/-- java/lang/Cloneable -/
def k11 : Class := { plain "java/lang/Cloneable" (some 0) with
  accessFlags := 1537
  interfaces := #[]
  cf := some (fileOf pool11 2 #[] #[] 1537 4 #[] #[])
  fields := #[]
  methods := #[]
  instanceTypes := #[]
  staticTypes := #[]
  resolved := Array.replicate 8 none
  statics := none }

/-- the primitive byte -/
def k12 : Class := { plain "byte" none with kind := .primitive 'B', accessFlags := 0x411 }
/-- [B -/
def k13 : Class := { plain "[B" (some 0) with kind := .array 12 .byte, interfaces := #[11, 4], accessFlags := 1041 }

/-- the primitive int -/
def k14 : Class := { plain "int" none with kind := .primitive 'I', accessFlags := 0x411 }
/-- [I -/
def k15 : Class := { plain "[I" (some 0) with kind := .array 14 .int, interfaces := #[11, 4], accessFlags := 1041 }

/-- the primitive long -/
def k16 : Class := { plain "long" none with kind := .primitive 'J', accessFlags := 0x411 }
/-- [J -/
def k17 : Class := { plain "[J" (some 0) with kind := .array 16 .long, interfaces := #[11, 4], accessFlags := 1041 }

def heap : Heap := #[]
def classes : Array Class := #[k0, k1, k2, k3, k4, k5, k6, k7, k8, k9, k10, k11, k12, k13, k14, k15, k16, k17]
def interned : List (Array UInt16 × Addr) := []
def slotsUsed : Nat := 0
def theMethod : MethodId := ⟨1, 1⟩
def args0 : Array Value := #[.long 5, .long 6, .long 7, .long 8, .int 9]
def aboutOver (below : List Frame) : State where
  vm := { classes := classes, interned := interned.toArray }
  heap := heap
  slotsUsed := slotsUsed
  threads := #[{ frames := .invoking theMethod args0 :: below }]
def below0 : List Frame := [.native { method := ⟨0, 0⟩, args := #[] }]
def about1 : State := aboutOver below0
def p0 : Program := .bare "" "" ""
def e0 : Env := launch0.env 0 0 0
theorem w_frames : about1.frames = Frame.invoking theMethod args0 :: below0 := rfl
set_option maxRecDepth 65536 in
theorem w_args : argsFit about1.vm theMethod args0 = true := by decide +kernel
set_option maxRecDepth 65536 in
theorem w_heap : heapFits about1 = true := by decide +kernel
set_option maxRecDepth 65536 in
theorem w_runnable : about1.curStatus? = some .runnable := by decide +kernel
set_option maxRecDepth 65536 in
theorem w_alone : about1.alone = true := by decide +kernel
set_option maxRecDepth 65536 in
theorem w_named : about1.methodNamed? x = some theMethod := by decide +kernel
set_option maxRecDepth 65536 in
theorem w_hears : about1.hears theMethod below0 = true := by decide +kernel
set_option maxRecDepth 65536 in
theorem w_ripe : about1.ripe theMethod args0 below0 = true := by decide +kernel
theorem w_running : about1.status = .running := rfl
set_option maxRecDepth 65536 in
theorem w_room : about1.hasRoom e0.platform room_1 = true :=
  launch0.hasRoom_least _ room_1 (by decide +kernel) (by decide +kernel) (by decide +kernel) (by decide +kernel) (by decide +kernel) (by decide +kernel)
theorem allAtoms_all (ts : List Jvm.Cond) (a : Array Jvm.Value) (st : Jvm.State) : (allAtoms ts).before a st = ts.all (fun c => c.before a st) := by
  induction ts with
  | nil => rfl
  | cons c t ih =>
    show (Jvm.Cond.and c (allAtoms t)).before a st = _
    rw [Jvm.Cond.before_and, ih, List.all_cons]
def words1 : List Jvm.Cond := Jvm.Cond.code x code maxLocals ret :: tables_1
/-- a 'code' word, met by the world's own term for the bytes: nothing is compared byte by byte -/
theorem code_word {y : MethodName} {bytes : ByteArray} {mx : Nat} {rt : Option FieldType} {a : Array Value} {s : State} {m : MethodId} {meth : Method} {c : Code} (h1 : s.methodNamed? y = some m) (h2 : s.vm.method? m = some meth) (h3 : meth.code = some c) (h4 : c.code = bytes)
    (h5 : (c.maxLocals == mx && c.exceptionTable.isEmpty && decide (c.maxStack ≤ mostOperands) && decide (meth.sig.returnType = rt) && !meth.locks && decide (parseMethodDescriptor y.desc = some meth.sig)) = true) : (Jvm.Cond.code y bytes mx rt).before a s = true := by
  simp only [Bool.and_eq_true, beq_iff_eq, Bool.not_eq_true', decide_eq_true_eq] at h5
  obtain ⟨⟨⟨⟨⟨g1, g2⟩, g3⟩, g4⟩, g5⟩, g6⟩ := h5
  simp [Cond.before, Cond.holds, Cond.value, h1, h2, h3, h4, g1, g2, g3, g4, g5, g6]
def isCode : Jvm.Cond → Bool
  | .code _ _ _ _ => true
  | _ => false
theorem all_split {L : List Jvm.Cond} {P : Jvm.Cond → Bool} (h1 : L.all (fun c => isCode c || P c) = true) (h2 : ∀ c ∈ L.filter isCode, P c = true) : L.all P = true := by
  refine List.all_eq_true.mpr fun c hc => ?_
  have h := List.all_eq_true.mp h1 c hc
  rcases Bool.eq_false_or_eq_true (isCode c) with hi | hi
  · exact h2 c (List.mem_filter.mpr ⟨hc, hi⟩)
  · simpa [hi] using h
set_option maxRecDepth 65536 in
theorem w_c0 : (Jvm.Cond.code x code maxLocals ret).before args0 about1 = true := code_word (m := ⟨1, 1⟩) (meth := k1m1) (c := k1c1) (by decide +kernel) rfl rfl rfl (by decide +kernel)
set_option maxRecDepth 65536 in
theorem w_c1 : (Jvm.Cond.code ({ cls := "com/example/dipper/dipper/model/LongCounts", name := "<init>", desc := "()V" } : Jvm.MethodName) prog_27_method_1_code (1 : Nat) (Option.none : Option Jvm.ClassFile.FieldType)).before args0 about1 = true := code_word (m := ⟨2, 0⟩) (meth := k2m0) (c := k2c0) (by decide +kernel) rfl rfl rfl (by decide +kernel)
set_option maxRecDepth 65536 in
theorem w_c2 : (Jvm.Cond.code ({ cls := "java/lang/Object", name := "<init>", desc := "()V" } : Jvm.MethodName) object_method_1_code (1 : Nat) (Option.none : Option Jvm.ClassFile.FieldType)).before args0 about1 = true := code_word (m := ⟨0, 0⟩) (meth := k0m0) (c := k0c0) (by decide +kernel) rfl rfl rfl (by decide +kernel)
set_option maxRecDepth 65536 in
theorem w_c3 : (Jvm.Cond.code ({ cls := "com/example/dipper/dipper/model/LongCounts", name := "newKeys", desc := "(I)[J" } : Jvm.MethodName) prog_27_method_7_code (2 : Nat) (Option.some (Jvm.ClassFile.FieldType.array Jvm.ClassFile.FieldType.long))).before args0 about1 = true := code_word (m := ⟨2, 4⟩) (meth := k2m4) (c := k2c4) (by decide +kernel) rfl rfl rfl (by decide +kernel)
set_option maxRecDepth 65536 in
theorem w_c4 : (Jvm.Cond.code ({ cls := "java/util/Arrays", name := "fill", desc := "([JJ)V" } : Jvm.MethodName) jdk_65_method_101_code (5 : Nat) (Option.none : Option Jvm.ClassFile.FieldType)).before args0 about1 = true := code_word (m := ⟨3, 1⟩) (meth := k3m1) (c := k3c1) (by decide +kernel) rfl rfl rfl (by decide +kernel)
set_option maxRecDepth 65536 in
theorem w_c5 : (Jvm.Cond.code ({ cls := "com/example/dipper/dipper/model/LongCounts", name := "keys", desc := "()[J" } : Jvm.MethodName) prog_27_method_4_code (8 : Nat) (Option.some (Jvm.ClassFile.FieldType.array Jvm.ClassFile.FieldType.long))).before args0 about1 = true := code_word (m := ⟨2, 2⟩) (meth := k2m2) (c := k2c2) (by decide +kernel) rfl rfl rfl (by decide +kernel)
set_option maxRecDepth 65536 in
theorem w_c6 : (Jvm.Cond.code ({ cls := "com/example/dipper/dipper/model/LongCounts", name := "add", desc := "(JJ)V" } : Jvm.MethodName) prog_27_method_2_code (6 : Nat) (Option.none : Option Jvm.ClassFile.FieldType)).before args0 about1 = true := code_word (m := ⟨2, 1⟩) (meth := k2m1) (c := k2c1) (by decide +kernel) rfl rfl rfl (by decide +kernel)
set_option maxRecDepth 65536 in
theorem w_c7 : (Jvm.Cond.code ({ cls := "com/example/dipper/dipper/model/LongCounts", name := "slot", desc := "([JJ)I" } : Jvm.MethodName) prog_27_method_5_code (5 : Nat) (Option.some Jvm.ClassFile.FieldType.int)).before args0 about1 = true := code_word (m := ⟨2, 3⟩) (meth := k2m3) (c := k2c3) (by decide +kernel) rfl rfl rfl (by decide +kernel)
set_option maxRecDepth 65536 in
theorem w_c8 : (Jvm.Cond.code ({ cls := "java/lang/Long", name := "numberOfLeadingZeros", desc := "(J)I" } : Jvm.MethodName) jdk_35_method_48_code (3 : Nat) (Option.some Jvm.ClassFile.FieldType.int)).before args0 about1 = true := code_word (m := ⟨9, 0⟩) (meth := k9m0) (c := k9c0) (by decide +kernel) rfl rfl rfl (by decide +kernel)
set_option maxRecDepth 65536 in
theorem w_c9 : (Jvm.Cond.code ({ cls := "java/lang/Integer", name := "numberOfLeadingZeros", desc := "(I)I" } : Jvm.MethodName) jdk_33_method_47_code (2 : Nat) (Option.some Jvm.ClassFile.FieldType.int)).before args0 about1 = true := code_word (m := ⟨10, 0⟩) (meth := k10m0) (c := k10c0) (by decide +kernel) rfl rfl rfl (by decide +kernel)
set_option maxRecDepth 65536 in
theorem w_c10 : (Jvm.Cond.code ({ cls := "com/example/dipper/dipper/model/LongCountsKeysPinLaw", name := "contains", desc := "([JJ)Z" } : Jvm.MethodName) method_3_code (3 : Nat) (Option.some Jvm.ClassFile.FieldType.boolean)).before args0 about1 = true := code_word (m := ⟨1, 2⟩) (meth := k1m2) (c := k1c2) (by decide +kernel) rfl rfl rfl (by decide +kernel)
def codes1 : List Jvm.Cond := [Jvm.Cond.code x code maxLocals ret, Jvm.Cond.code ({ cls := "com/example/dipper/dipper/model/LongCounts", name := "<init>", desc := "()V" } : Jvm.MethodName) prog_27_method_1_code (1 : Nat) (Option.none : Option Jvm.ClassFile.FieldType), Jvm.Cond.code ({ cls := "java/lang/Object", name := "<init>", desc := "()V" } : Jvm.MethodName) object_method_1_code (1 : Nat) (Option.none : Option Jvm.ClassFile.FieldType), Jvm.Cond.code ({ cls := "com/example/dipper/dipper/model/LongCounts", name := "newKeys", desc := "(I)[J" } : Jvm.MethodName) prog_27_method_7_code (2 : Nat) (Option.some (Jvm.ClassFile.FieldType.array Jvm.ClassFile.FieldType.long)), Jvm.Cond.code ({ cls := "java/util/Arrays", name := "fill", desc := "([JJ)V" } : Jvm.MethodName) jdk_65_method_101_code (5 : Nat) (Option.none : Option Jvm.ClassFile.FieldType), Jvm.Cond.code ({ cls := "com/example/dipper/dipper/model/LongCounts", name := "keys", desc := "()[J" } : Jvm.MethodName) prog_27_method_4_code (8 : Nat) (Option.some (Jvm.ClassFile.FieldType.array Jvm.ClassFile.FieldType.long)), Jvm.Cond.code ({ cls := "com/example/dipper/dipper/model/LongCounts", name := "add", desc := "(JJ)V" } : Jvm.MethodName) prog_27_method_2_code (6 : Nat) (Option.none : Option Jvm.ClassFile.FieldType), Jvm.Cond.code ({ cls := "com/example/dipper/dipper/model/LongCounts", name := "slot", desc := "([JJ)I" } : Jvm.MethodName) prog_27_method_5_code (5 : Nat) (Option.some Jvm.ClassFile.FieldType.int), Jvm.Cond.code ({ cls := "java/lang/Long", name := "numberOfLeadingZeros", desc := "(J)I" } : Jvm.MethodName) jdk_35_method_48_code (3 : Nat) (Option.some Jvm.ClassFile.FieldType.int), Jvm.Cond.code ({ cls := "java/lang/Integer", name := "numberOfLeadingZeros", desc := "(I)I" } : Jvm.MethodName) jdk_33_method_47_code (2 : Nat) (Option.some Jvm.ClassFile.FieldType.int), Jvm.Cond.code ({ cls := "com/example/dipper/dipper/model/LongCountsKeysPinLaw", name := "contains", desc := "([JJ)Z" } : Jvm.MethodName) method_3_code (3 : Nat) (Option.some Jvm.ClassFile.FieldType.boolean)]
set_option maxRecDepth 65536 in
theorem codes_eq : words1.filter isCode = codes1 := rfl
theorem w_codes : ∀ c ∈ words1.filter isCode, c.before args0 about1 = true := by
  rw [codes_eq]
  intro c hc
  simp only [codes1, List.mem_cons, List.not_mem_nil, or_false] at hc
  rcases hc with rfl | rfl | rfl | rfl | rfl | rfl | rfl | rfl | rfl | rfl | rfl
  · exact w_c0
  · exact w_c1
  · exact w_c2
  · exact w_c3
  · exact w_c4
  · exact w_c5
  · exact w_c6
  · exact w_c7
  · exact w_c8
  · exact w_c9
  · exact w_c10
set_option maxRecDepth 65536 in
theorem w_t1 : (words1.take 24).all (fun c => isCode c || c.before args0 about1) = true := by decide +kernel
set_option maxRecDepth 65536 in
theorem w_t2 : ((words1.drop 24).take 24).all (fun c => isCode c || c.before args0 about1) = true := by decide +kernel
set_option maxRecDepth 65536 in
theorem w_t3 : ((words1.drop 24).drop 24).all (fun c => isCode c || c.before args0 about1) = true := by decide +kernel
theorem w_tables : (allAtoms (Jvm.Cond.code x code maxLocals ret :: tables_1)).before args0 about1 = true := by
  rw [allAtoms_all]
  show words1.all (fun c => c.before args0 about1) = true
  refine all_split ?_ w_codes
  rw [← List.take_append_drop 24 words1, List.all_append, w_t1, ← List.take_append_drop 24 (words1.drop 24), List.all_append, w_t2, w_t3]
  rfl
set_option maxRecDepth 65536 in
theorem w_case : (Jvm.Cond.and given_1 narrow_1).before args0 about1 = true := by decide +kernel
theorem w_applies : (headSpec (Jvm.Cond.code x code maxLocals ret :: tables_1) room_1).applies x e0.platform about1 = true :=
  (Spec.applies_iff w_frames).mpr ⟨w_running, w_runnable, w_alone, w_named, w_hears, w_ripe, w_room, w_tables⟩
theorem atStart : AtStart classFile x code maxLocals ret World_1 tables_1 room_1 Calls_1 rest_1 Pre_1 launch0 p0 e0 about1 theMethod args0 below0 :=
  ⟨lists_1, trivial, launch0.admits_env _ _ _, launch0.least_env, fairChoices_fair.cas, fairChoices_fair.clock, w_frames, w_args, w_heap, w_applies, trivial, trivial, w_case⟩
end start1
theorem witness_1 : WitnessClaimed_1 := ⟨start1.p0, start1.e0, start1.about1, start1.theMethod, start1.args0, start1.below0, start1.atStart⟩
end Jvm.Pilot.@@N@@

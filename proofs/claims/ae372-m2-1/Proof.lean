import JvmDerived
import JvmDerived.Pilot.@@N@@Statement
import JvmDerived.Pilot.@@N@@Code
set_option linter.unusedVariables false
set_option linter.unusedSimpArgs false
namespace Jvm.RoadKit
open Sem ClassFile Op Lib Jvm.Stand Jvm.Free Jvm.LawKit
section New
variable {p : Program} {l : Launch} {e : Env} {R : Room} {s : State} {m : MethodId} {args : Array Value} {below : List Frame} {meth : Method} {c : Code} {T : State} {locs : List Loc} {cells slots : Nat}
theorem retI (X : Stand p l e R s m args below meth c T locs cells slots) (hx : p.tables.exec = Jvm.exec) {pc : Nat} {Ls : Array Slot} {z : Int32} {rest : List Value} (hret : meth.sig.returnType = some .int) (hd : decode c.code pc = .ok (.ireturn, 1)) {fs : List Frame}
    (hl : ∀ (f : JFrame) (acts : List Action), f.method = m → f.locked = none → f.entered = [] → (doReturn e (T.setTop f) acts (some (.int z))).1 = T.setFrames fs) : Steps p.tables e below (T.setTop (mkF m pc Ls (.int z :: rest))) (T.setFrames fs) := by
  have hm' : T.vm.method? m = some meth := X.method'
  have hn : narrow .int (.int z) = .int z := rfl
  show Steps p.tables e below (T.setTop { method := m, pc := pc, locals := Ls, stack := _ :: rest, locked := none }) _
  jvm_step X.here [X.here.top, hx, hd, hm', hret, hn]
  first | (intro acts; rw [hl _ acts rfl rfl rfl]) | rw [hl _ _ rfl rfl rfl]
  exact Steps.refl _
end New
end Jvm.RoadKit
namespace Jvm.Own
open Sem ClassFile Op Lib Jvm.Stand Jvm.Free Jvm.LawKit Jvm.RoadKit
/-- the constants of one body's walk -/
abbrev KT := Program × Launch × Env × Room × State × MethodId × Array Value × List Frame × Method × Code × State × Nat
abbrev KT.p (K : KT) : Program := K.1
abbrev KT.l (K : KT) : Launch := K.2.1
abbrev KT.e (K : KT) : Env := K.2.2.1
abbrev KT.R (K : KT) : Room := K.2.2.2.1
abbrev KT.s (K : KT) : State := K.2.2.2.2.1
abbrev KT.m (K : KT) : MethodId := K.2.2.2.2.2.1
abbrev KT.args (K : KT) : Array Value := K.2.2.2.2.2.2.1
abbrev KT.below (K : KT) : List Frame := K.2.2.2.2.2.2.2.1
abbrev KT.meth (K : KT) : Method := K.2.2.2.2.2.2.2.2.1
abbrev KT.c (K : KT) : Code := K.2.2.2.2.2.2.2.2.2.1
abbrev KT.Z (K : KT) : State := K.2.2.2.2.2.2.2.2.2.2.1
abbrev KT.n0 (K : KT) : Nat := K.2.2.2.2.2.2.2.2.2.2.2
/-- what is known of the body -/
def Cx (K : KT) (y : MethodName) (bytes : ByteArray) (mx : Nat) (rt : Option FieldType) (R : Room) : Prop :=
  K.p.tables.exec = Jvm.exec ∧ K.Z.Warmed39 K.s.vm ∧ K.c.code = bytes ∧ K.c.maxLocals = mx ∧ K.s.vm.findClass y.cls = some K.m.cls ∧ K.meth.sig.returnType = rt ∧ K.meth.locks = false ∧ K.R = R ∧ K.meth.name = y.name
/-- where the walk stands: heap h, so many cells and slots made; nothing old written -/
def Sd (K : KT) (T : State) (h : Heap) (cl sl : Nat) : Prop := ∃ locs, Stand K.p K.l K.e K.R K.s K.m K.args K.below K.meth K.c T locs cl sl ∧ Fr K.n0 locs ∧ K.n0 ≤ h.size ∧ T.heap = h
/-- from here the body comes to its end, and Q holds of what it returns and of the heap then -/
def Run (K : KT) (Q : Option Value → Heap → Prop) (T : State) (g : JFrame) : Prop :=
  ∃ s₂ v L, Steps K.p.tables K.e K.below (T.setTop g) s₂ ∧ s₂.status = .running ∧ Ended s₂ K.below (.returned v) ∧ Q v s₂.heap ∧ Fr K.n0 L ∧ FrameEnd K.s (.returned v) s₂ L K.R.cells K.R.slots
theorem Run.st {K : KT} {Q : Option Value → Heap → Prop} {T T' : State} {g g' : JFrame} (st : ∀ t, Steps K.p.tables K.e K.below (T'.setTop g') t → Steps K.p.tables K.e K.below (T.setTop g) t) (k : Run K Q T' g') : Run K Q T g := by
  obtain ⟨s₂, v, L, h1, h2⟩ := k
  exact ⟨s₂, v, L, st _ h1, h2⟩
theorem Run.cast {K : KT} {Q : Option Value → Heap → Prop} {T : State} {g g' : JFrame} (q : g = g') (k : Run K Q T g') : Run K Q T g := q ▸ k
theorem Run.mono {K : KT} {Q Q' : Option Value → Heap → Prop} {T : State} {g : JFrame} (k : Run K Q T g) (q : ∀ v h, Q v h → Q' v h) : Run K Q' T g := by
  obtain ⟨s₂, v, L, h1, h2, h3, h4, h5⟩ := k
  exact ⟨s₂, v, L, h1, h2, h3, q _ _ h4, h5⟩
/-- the words of a sheet -/
def Tb (ws : List Jvm.Cond) (a0 : Array Value) (Z : State) : Prop := ∀ d ∈ ws, d.before a0 Z = true
theorem Tb.get {ws : List Jvm.Cond} {a0 : Array Value} {Z : State} (hw : Tb ws a0 Z) (i : Nat) {d : Jvm.Cond} (h : ws[i]? = some d) : d.before a0 Z = true := hw d (List.mem_of_getElem? h)
/-- an instruction, its length, the pc behind -/
def Dc (bytes : ByteArray) (pc : Nat) (i : Instr) (n pc' : Nat) : Prop := decode bytes pc = .ok (i, n) ∧ pc + n = pc'
/-- a branch: the pc behind, the pc that it goes to -/
def Db (bytes : ByteArray) (pc : Nat) (i : Instr) (o : Int) (pc' pt : Nat) : Prop := decode bytes pc = .ok (i, 3) ∧ pc + 3 = pc' ∧ 0 ≤ (pc : Int) + o ∧ ((pc : Int) + o).toNat = pt
theorem ne_new {a b : Addr} {h : Heap} (ea : a = h.size) (q : b < h.size) : a ≠ b := by subst ea; exact Nat.ne_of_gt q
theorem fr_new {h0 h : Heap} {a : Addr} (ea : a = h.size) (q : h0.size ≤ h.size) : h0.size ≤ a := ea ▸ q
theorem leb {a b : Nat} (h : Nat.ble a b = true) : a ≤ b := Nat.le_of_ble_eq_true h
theorem ltb {a b : Nat} (h : Nat.ble (a + 1) b = true) : a < b := Nat.le_of_ble_eq_true h
section Rules
variable {K : KT} {Q : Option Value → Heap → Prop} {T : State} {h : Heap} {cl sl : Nat} {y : MethodName} {bytes : ByteArray} {mx : Nat} {rt : Option FieldType} {R : Room} {pc pc' pt : Nat} {L : Array Slot} {S : List Value}
theorem r_top {v v' : Int32} (q : v = v') (k : Run K Q T (mkF K.m pc L (.int v' :: S))) : Run K Q T (mkF K.m pc L (.int v :: S)) := q ▸ k
theorem r_topL {v v' : Int64} (q : v = v') (k : Run K Q T (mkF K.m pc L (.long v' :: S))) : Run K Q T (mkF K.m pc L (.long v :: S)) := q ▸ k
theorem Sd.ge (X : Sd K T h cl sl) : K.n0 ≤ h.size := by obtain ⟨_, _, _, q, _⟩ := X; exact q
theorem r_iloadN {i : Fin 4} {v : Int32} (X : Sd K T h cl sl) (cx : Cx K y bytes mx rt R) (hd : Dc bytes pc (.iload_n i) 1 pc') (hl : L[i.val]? = some (.val (.int v))) (k : Run K Q T (mkF K.m pc' L (.int v :: S))) : Run K Q T (mkF K.m pc L (S)) := by
  obtain ⟨locs, X0, -⟩ := X; obtain ⟨hx, -, hby, -⟩ := cx; obtain ⟨d, rfl⟩ := hd
  exact Run.st (fun t q => XS.iloadN X0.here hx rfl (hb hby d) hl q) k
theorem r_iload {i : Nat} {v : Int32} (X : Sd K T h cl sl) (cx : Cx K y bytes mx rt R) (hd : Dc bytes pc (.iload i) 2 pc') (hl : L[i]? = some (.val (.int v))) (k : Run K Q T (mkF K.m pc' L (.int v :: S))) : Run K Q T (mkF K.m pc L (S)) := by
  obtain ⟨locs, X0, -⟩ := X; obtain ⟨hx, -, hby, -⟩ := cx; obtain ⟨d, rfl⟩ := hd
  exact Run.st (fun t q => XS.iload X0.here hx rfl (hb hby d) hl q) k
theorem r_lloadN {i : Fin 4} {v : Int64} (X : Sd K T h cl sl) (cx : Cx K y bytes mx rt R) (hd : Dc bytes pc (.lload_n i) 1 pc') (hl : L[i.val]? = some (.val (.long v))) (k : Run K Q T (mkF K.m pc' L (.long v :: S))) : Run K Q T (mkF K.m pc L (S)) := by
  obtain ⟨locs, X0, -⟩ := X; obtain ⟨hx, -, hby, -⟩ := cx; obtain ⟨d, rfl⟩ := hd
  exact Run.st (fun t q => XT.lloadN X0.here hx rfl (hb hby d) hl q) k
theorem r_lload {i : Nat} {v : Int64} (X : Sd K T h cl sl) (cx : Cx K y bytes mx rt R) (hd : Dc bytes pc (.lload i) 2 pc') (hl : L[i]? = some (.val (.long v))) (k : Run K Q T (mkF K.m pc' L (.long v :: S))) : Run K Q T (mkF K.m pc L (S)) := by
  obtain ⟨locs, X0, -⟩ := X; obtain ⟨hx, -, hby, -⟩ := cx; obtain ⟨d, rfl⟩ := hd
  exact Run.st (fun t q => XT.lload X0.here hx rfl (hb hby d) hl q) k
theorem r_aloadN {i : Fin 4} {v : Addr} (X : Sd K T h cl sl) (cx : Cx K y bytes mx rt R) (hd : Dc bytes pc (.aload_n i) 1 pc') (hl : L[i.val]? = some (.val (.ref v))) (k : Run K Q T (mkF K.m pc' L (.ref v :: S))) : Run K Q T (mkF K.m pc L (S)) := by
  obtain ⟨locs, X0, -⟩ := X; obtain ⟨hx, -, hby, -⟩ := cx; obtain ⟨d, rfl⟩ := hd
  exact Run.st (fun t q => XS.aloadN X0.here hx rfl (hb hby d) hl rfl q) k
theorem r_aload {i : Nat} {v : Addr} (X : Sd K T h cl sl) (cx : Cx K y bytes mx rt R) (hd : Dc bytes pc (.aload i) 2 pc') (hl : L[i]? = some (.val (.ref v))) (k : Run K Q T (mkF K.m pc' L (.ref v :: S))) : Run K Q T (mkF K.m pc L (S)) := by
  obtain ⟨locs, X0, -⟩ := X; obtain ⟨hx, -, hby, -⟩ := cx; obtain ⟨d, rfl⟩ := hd
  exact Run.st (fun t q => XS.aload X0.here hx rfl (hb hby d) hl rfl q) k
theorem r_iconst {i : Int} (v : Int32) (X : Sd K T h cl sl) (cx : Cx K y bytes mx rt R) (hd : Dc bytes pc (.iconst i) 1 pc') (hv : Int32.ofInt i = v) (k : Run K Q T (mkF K.m pc' L (.int v :: S))) : Run K Q T (mkF K.m pc L (S)) := by
  obtain ⟨locs, X0, -⟩ := X; obtain ⟨hx, -, hby, -⟩ := cx; obtain ⟨d, rfl⟩ := hd
  exact Run.st (fun t q => XT.iconstV X0.here hx rfl v (hb hby d) hv q) k
theorem r_bipush {i : Int} (v : Int32) (X : Sd K T h cl sl) (cx : Cx K y bytes mx rt R) (hd : Dc bytes pc (.bipush i) 2 pc') (hv : (Int8.ofInt i).toInt32 = v) (k : Run K Q T (mkF K.m pc' L (.int v :: S))) : Run K Q T (mkF K.m pc L (S)) := by
  obtain ⟨locs, X0, -⟩ := X; obtain ⟨hx, -, hby, -⟩ := cx; obtain ⟨d, rfl⟩ := hd
  exact Run.st (fun t q => XT.bipushV X0.here hx rfl v (hb hby d) hv q) k
theorem r_sipush {i : Int} (v : Int32) (X : Sd K T h cl sl) (cx : Cx K y bytes mx rt R) (hd : Dc bytes pc (.sipush i) 3 pc') (hv : (Int16.ofInt i).toInt32 = v) (k : Run K Q T (mkF K.m pc' L (.int v :: S))) : Run K Q T (mkF K.m pc L (S)) := by
  obtain ⟨locs, X0, -⟩ := X; obtain ⟨hx, -, hby, -⟩ := cx; obtain ⟨d, rfl⟩ := hd
  exact Run.st (fun t q => XT.sipushV X0.here hx rfl v (hb hby d) hv q) k
theorem r_lconst {i : Fin 2} (v : Int64) (X : Sd K T h cl sl) (cx : Cx K y bytes mx rt R) (hd : Dc bytes pc (.lconst i) 1 pc') (hv : Int64.ofNat i = v) (k : Run K Q T (mkF K.m pc' L (.long v :: S))) : Run K Q T (mkF K.m pc L (S)) := by
  obtain ⟨locs, X0, -⟩ := X; obtain ⟨hx, -, hby, -⟩ := cx; obtain ⟨d, rfl⟩ := hd
  exact Run.st (fun t q => XT.lconstV X0.here hx rfl v (hb hby d) hv q) k
theorem r_iadd {a b : Int32} (X : Sd K T h cl sl) (cx : Cx K y bytes mx rt R) (hd : Dc bytes pc .iadd 1 pc') (k : Run K Q T (mkF K.m pc' L (.int (a + b) :: S))) : Run K Q T (mkF K.m pc L (.int b :: .int a :: S)) := by
  obtain ⟨locs, X0, -⟩ := X; obtain ⟨hx, -, hby, -⟩ := cx; obtain ⟨d, rfl⟩ := hd
  exact Run.st (fun t q => XS.iadd X0.here hx rfl (hb hby d) rfl q) k
theorem r_isub {a b : Int32} (X : Sd K T h cl sl) (cx : Cx K y bytes mx rt R) (hd : Dc bytes pc .isub 1 pc') (k : Run K Q T (mkF K.m pc' L (.int (a - b) :: S))) : Run K Q T (mkF K.m pc L (.int b :: .int a :: S)) := by
  obtain ⟨locs, X0, -⟩ := X; obtain ⟨hx, -, hby, -⟩ := cx; obtain ⟨d, rfl⟩ := hd
  exact Run.st (fun t q => XS.isub X0.here hx rfl (hb hby d) rfl q) k
theorem r_imul {a b : Int32} (X : Sd K T h cl sl) (cx : Cx K y bytes mx rt R) (hd : Dc bytes pc .imul 1 pc') (k : Run K Q T (mkF K.m pc' L (.int (a * b) :: S))) : Run K Q T (mkF K.m pc L (.int b :: .int a :: S)) := by
  obtain ⟨locs, X0, -⟩ := X; obtain ⟨hx, -, hby, -⟩ := cx; obtain ⟨d, rfl⟩ := hd
  exact Run.st (fun t q => XS.imul X0.here hx rfl (hb hby d) rfl q) k
theorem r_iand {a b : Int32} (X : Sd K T h cl sl) (cx : Cx K y bytes mx rt R) (hd : Dc bytes pc .iand 1 pc') (k : Run K Q T (mkF K.m pc' L (.int (a &&& b) :: S))) : Run K Q T (mkF K.m pc L (.int b :: .int a :: S)) := by
  obtain ⟨locs, X0, -⟩ := X; obtain ⟨hx, -, hby, -⟩ := cx; obtain ⟨d, rfl⟩ := hd
  exact Run.st (fun t q => XS.iand X0.here hx rfl (hb hby d) rfl q) k
theorem r_ior {a b : Int32} (X : Sd K T h cl sl) (cx : Cx K y bytes mx rt R) (hd : Dc bytes pc .ior 1 pc') (k : Run K Q T (mkF K.m pc' L (.int (a ||| b) :: S))) : Run K Q T (mkF K.m pc L (.int b :: .int a :: S)) := by
  obtain ⟨locs, X0, -⟩ := X; obtain ⟨hx, -, hby, -⟩ := cx; obtain ⟨d, rfl⟩ := hd
  exact Run.st (fun t q => XT.ior X0.here hx rfl (hb hby d) rfl q) k
theorem r_ixor {a b : Int32} (X : Sd K T h cl sl) (cx : Cx K y bytes mx rt R) (hd : Dc bytes pc .ixor 1 pc') (k : Run K Q T (mkF K.m pc' L (.int (a ^^^ b) :: S))) : Run K Q T (mkF K.m pc L (.int b :: .int a :: S)) := by
  obtain ⟨locs, X0, -⟩ := X; obtain ⟨hx, -, hby, -⟩ := cx; obtain ⟨d, rfl⟩ := hd
  exact Run.st (fun t q => XT.ixor X0.here hx rfl (hb hby d) rfl q) k
theorem r_ishl {a b : Int32} (X : Sd K T h cl sl) (cx : Cx K y bytes mx rt R) (hd : Dc bytes pc .ishl 1 pc') (k : Run K Q T (mkF K.m pc' L (.int (a <<< (b &&& 31)) :: S))) : Run K Q T (mkF K.m pc L (.int b :: .int a :: S)) := by
  obtain ⟨locs, X0, -⟩ := X; obtain ⟨hx, -, hby, -⟩ := cx; obtain ⟨d, rfl⟩ := hd
  exact Run.st (fun t q => XT.ishl X0.here hx rfl (hb hby d) rfl q) k
theorem r_ishr {a b : Int32} (X : Sd K T h cl sl) (cx : Cx K y bytes mx rt R) (hd : Dc bytes pc .ishr 1 pc') (k : Run K Q T (mkF K.m pc' L (.int (a >>> (b &&& 31)) :: S))) : Run K Q T (mkF K.m pc L (.int b :: .int a :: S)) := by
  obtain ⟨locs, X0, -⟩ := X; obtain ⟨hx, -, hby, -⟩ := cx; obtain ⟨d, rfl⟩ := hd
  exact Run.st (fun t q => XT.ishr X0.here hx rfl (hb hby d) rfl q) k
theorem r_iushr {a b : Int32} (X : Sd K T h cl sl) (cx : Cx K y bytes mx rt R) (hd : Dc bytes pc .iushr 1 pc') (k : Run K Q T (mkF K.m pc' L (.int (XT.ushr a b) :: S))) : Run K Q T (mkF K.m pc L (.int b :: .int a :: S)) := by
  obtain ⟨locs, X0, -⟩ := X; obtain ⟨hx, -, hby, -⟩ := cx; obtain ⟨d, rfl⟩ := hd
  exact Run.st (fun t q => XT.iushr X0.here hx rfl (hb hby d) rfl q) k
theorem r_idiv {a b : Int32} (X : Sd K T h cl sl) (cx : Cx K y bytes mx rt R) (hd : Dc bytes pc .idiv 1 pc') (hne : b ≠ 0) (k : Run K Q T (mkF K.m pc' L (.int (a / b) :: S))) : Run K Q T (mkF K.m pc L (.int b :: .int a :: S)) := by
  obtain ⟨locs, X0, -⟩ := X; obtain ⟨hx, -, hby, -⟩ := cx; obtain ⟨d, rfl⟩ := hd
  exact Run.st (fun t q => XS.idiv X0.here hx rfl (hb hby d) rfl hne q) k
theorem r_irem {a b : Int32} (X : Sd K T h cl sl) (cx : Cx K y bytes mx rt R) (hd : Dc bytes pc .irem 1 pc') (hne : b ≠ 0) (k : Run K Q T (mkF K.m pc' L (.int (a - (a / b) * b) :: S))) : Run K Q T (mkF K.m pc L (.int b :: .int a :: S)) := by
  obtain ⟨locs, X0, -⟩ := X; obtain ⟨hx, -, hby, -⟩ := cx; obtain ⟨d, rfl⟩ := hd
  exact Run.st (fun t q => XS.irem X0.here hx rfl (hb hby d) rfl hne q) k
theorem r_ladd {a b : Int64} (X : Sd K T h cl sl) (cx : Cx K y bytes mx rt R) (hd : Dc bytes pc .ladd 1 pc') (k : Run K Q T (mkF K.m pc' L (.long (a + b) :: S))) : Run K Q T (mkF K.m pc L (.long b :: .long a :: S)) := by
  obtain ⟨locs, X0, -⟩ := X; obtain ⟨hx, -, hby, -⟩ := cx; obtain ⟨d, rfl⟩ := hd
  exact Run.st (fun t q => XT.ladd X0.here hx rfl (hb hby d) rfl q) k
theorem r_lsub {a b : Int64} (X : Sd K T h cl sl) (cx : Cx K y bytes mx rt R) (hd : Dc bytes pc .lsub 1 pc') (k : Run K Q T (mkF K.m pc' L (.long (a - b) :: S))) : Run K Q T (mkF K.m pc L (.long b :: .long a :: S)) := by
  obtain ⟨locs, X0, -⟩ := X; obtain ⟨hx, -, hby, -⟩ := cx; obtain ⟨d, rfl⟩ := hd
  exact Run.st (fun t q => XT.lsub X0.here hx rfl (hb hby d) rfl q) k
theorem r_lmul {a b : Int64} (X : Sd K T h cl sl) (cx : Cx K y bytes mx rt R) (hd : Dc bytes pc .lmul 1 pc') (k : Run K Q T (mkF K.m pc' L (.long (a * b) :: S))) : Run K Q T (mkF K.m pc L (.long b :: .long a :: S)) := by
  obtain ⟨locs, X0, -⟩ := X; obtain ⟨hx, -, hby, -⟩ := cx; obtain ⟨d, rfl⟩ := hd
  exact Run.st (fun t q => XT.lmul X0.here hx rfl (hb hby d) rfl q) k
theorem r_land {a b : Int64} (X : Sd K T h cl sl) (cx : Cx K y bytes mx rt R) (hd : Dc bytes pc .land 1 pc') (k : Run K Q T (mkF K.m pc' L (.long (a &&& b) :: S))) : Run K Q T (mkF K.m pc L (.long b :: .long a :: S)) := by
  obtain ⟨locs, X0, -⟩ := X; obtain ⟨hx, -, hby, -⟩ := cx; obtain ⟨d, rfl⟩ := hd
  exact Run.st (fun t q => XT.land X0.here hx rfl (hb hby d) rfl q) k
theorem r_lor {a b : Int64} (X : Sd K T h cl sl) (cx : Cx K y bytes mx rt R) (hd : Dc bytes pc .lor 1 pc') (k : Run K Q T (mkF K.m pc' L (.long (a ||| b) :: S))) : Run K Q T (mkF K.m pc L (.long b :: .long a :: S)) := by
  obtain ⟨locs, X0, -⟩ := X; obtain ⟨hx, -, hby, -⟩ := cx; obtain ⟨d, rfl⟩ := hd
  exact Run.st (fun t q => XT.lor X0.here hx rfl (hb hby d) rfl q) k
theorem r_lxor {a b : Int64} (X : Sd K T h cl sl) (cx : Cx K y bytes mx rt R) (hd : Dc bytes pc .lxor 1 pc') (k : Run K Q T (mkF K.m pc' L (.long (a ^^^ b) :: S))) : Run K Q T (mkF K.m pc L (.long b :: .long a :: S)) := by
  obtain ⟨locs, X0, -⟩ := X; obtain ⟨hx, -, hby, -⟩ := cx; obtain ⟨d, rfl⟩ := hd
  exact Run.st (fun t q => XT.lxor X0.here hx rfl (hb hby d) rfl q) k
theorem r_ldiv {a b : Int64} (X : Sd K T h cl sl) (cx : Cx K y bytes mx rt R) (hd : Dc bytes pc .ldiv 1 pc') (hne : b ≠ 0) (k : Run K Q T (mkF K.m pc' L (.long (a / b) :: S))) : Run K Q T (mkF K.m pc L (.long b :: .long a :: S)) := by
  obtain ⟨locs, X0, -⟩ := X; obtain ⟨hx, -, hby, -⟩ := cx; obtain ⟨d, rfl⟩ := hd
  exact Run.st (fun t q => XT.ldiv X0.here hx rfl (hb hby d) rfl hne q) k
theorem r_lrem {a b : Int64} (X : Sd K T h cl sl) (cx : Cx K y bytes mx rt R) (hd : Dc bytes pc .lrem 1 pc') (hne : b ≠ 0) (k : Run K Q T (mkF K.m pc' L (.long (a - (a / b) * b) :: S))) : Run K Q T (mkF K.m pc L (.long b :: .long a :: S)) := by
  obtain ⟨locs, X0, -⟩ := X; obtain ⟨hx, -, hby, -⟩ := cx; obtain ⟨d, rfl⟩ := hd
  exact Run.st (fun t q => XT.lrem X0.here hx rfl (hb hby d) rfl hne q) k
theorem r_lshl {a : Int64} {b : Int32} (X : Sd K T h cl sl) (cx : Cx K y bytes mx rt R) (hd : Dc bytes pc .lshl 1 pc') (k : Run K Q T (mkF K.m pc' L (.long (a <<< (b.toInt64 &&& 63)) :: S))) : Run K Q T (mkF K.m pc L (.int b :: .long a :: S)) := by
  obtain ⟨locs, X0, -⟩ := X; obtain ⟨hx, -, hby, -⟩ := cx; obtain ⟨d, rfl⟩ := hd
  exact Run.st (fun t q => XT.lshl X0.here hx rfl (hb hby d) rfl q) k
theorem r_lshr {a : Int64} {b : Int32} (X : Sd K T h cl sl) (cx : Cx K y bytes mx rt R) (hd : Dc bytes pc .lshr 1 pc') (k : Run K Q T (mkF K.m pc' L (.long (a >>> (b.toInt64 &&& 63)) :: S))) : Run K Q T (mkF K.m pc L (.int b :: .long a :: S)) := by
  obtain ⟨locs, X0, -⟩ := X; obtain ⟨hx, -, hby, -⟩ := cx; obtain ⟨d, rfl⟩ := hd
  exact Run.st (fun t q => XT.lshr X0.here hx rfl (hb hby d) rfl q) k
theorem r_lushr {a : Int64} {b : Int32} (X : Sd K T h cl sl) (cx : Cx K y bytes mx rt R) (hd : Dc bytes pc .lushr 1 pc') (k : Run K Q T (mkF K.m pc' L (.long (XT.ushrL a b) :: S))) : Run K Q T (mkF K.m pc L (.int b :: .long a :: S)) := by
  obtain ⟨locs, X0, -⟩ := X; obtain ⟨hx, -, hby, -⟩ := cx; obtain ⟨d, rfl⟩ := hd
  exact Run.st (fun t q => XT.lushr X0.here hx rfl (hb hby d) rfl q) k
theorem r_ineg {a : Int32} (X : Sd K T h cl sl) (cx : Cx K y bytes mx rt R) (hd : Dc bytes pc .ineg 1 pc') (k : Run K Q T (mkF K.m pc' L (.int (-a) :: S))) : Run K Q T (mkF K.m pc L (.int a :: S)) := by
  obtain ⟨locs, X0, -⟩ := X; obtain ⟨hx, -, hby, -⟩ := cx; obtain ⟨d, rfl⟩ := hd
  exact Run.st (fun t q => XS.ineg X0.here hx rfl (hb hby d) rfl q) k
theorem r_i2l {a : Int32} (X : Sd K T h cl sl) (cx : Cx K y bytes mx rt R) (hd : Dc bytes pc .i2l 1 pc') (k : Run K Q T (mkF K.m pc' L (.long a.toInt64 :: S))) : Run K Q T (mkF K.m pc L (.int a :: S)) := by
  obtain ⟨locs, X0, -⟩ := X; obtain ⟨hx, -, hby, -⟩ := cx; obtain ⟨d, rfl⟩ := hd
  exact Run.st (fun t q => XT.i2l X0.here hx rfl (hb hby d) rfl q) k
theorem r_l2i {a : Int64} (X : Sd K T h cl sl) (cx : Cx K y bytes mx rt R) (hd : Dc bytes pc .l2i 1 pc') (k : Run K Q T (mkF K.m pc' L (.int a.toInt32 :: S))) : Run K Q T (mkF K.m pc L (.long a :: S)) := by
  obtain ⟨locs, X0, -⟩ := X; obtain ⟨hx, -, hby, -⟩ := cx; obtain ⟨d, rfl⟩ := hd
  exact Run.st (fun t q => XT.l2i X0.here hx rfl (hb hby d) rfl q) k
theorem r_i2b {a : Int32} (X : Sd K T h cl sl) (cx : Cx K y bytes mx rt R) (hd : Dc bytes pc .i2b 1 pc') (k : Run K Q T (mkF K.m pc' L (.int a.toInt8.toInt32 :: S))) : Run K Q T (mkF K.m pc L (.int a :: S)) := by
  obtain ⟨locs, X0, -⟩ := X; obtain ⟨hx, -, hby, -⟩ := cx; obtain ⟨d, rfl⟩ := hd
  exact Run.st (fun t q => XT.i2b X0.here hx rfl (hb hby d) rfl q) k
theorem r_i2s {a : Int32} (X : Sd K T h cl sl) (cx : Cx K y bytes mx rt R) (hd : Dc bytes pc .i2s 1 pc') (k : Run K Q T (mkF K.m pc' L (.int a.toInt16.toInt32 :: S))) : Run K Q T (mkF K.m pc L (.int a :: S)) := by
  obtain ⟨locs, X0, -⟩ := X; obtain ⟨hx, -, hby, -⟩ := cx; obtain ⟨d, rfl⟩ := hd
  exact Run.st (fun t q => XT.i2s X0.here hx rfl (hb hby d) rfl q) k
theorem r_lcmp {a b : Int64} (X : Sd K T h cl sl) (cx : Cx K y bytes mx rt R) (hd : Dc bytes pc .lcmp 1 pc') (k : Run K Q T (mkF K.m pc' L (.int (XT.cmpL a b) :: S))) : Run K Q T (mkF K.m pc L (.long b :: .long a :: S)) := by
  obtain ⟨locs, X0, -⟩ := X; obtain ⟨hx, -, hby, -⟩ := cx; obtain ⟨d, rfl⟩ := hd
  exact Run.st (fun t q => XT.lcmp X0.here hx rfl (hb hby d) rfl q) k
theorem r_dup {v : Value} (X : Sd K T h cl sl) (cx : Cx K y bytes mx rt R) (hd : Dc bytes pc .dup 1 pc') (hc : v.category = 1) (k : Run K Q T (mkF K.m pc' L (v :: v :: S))) : Run K Q T (mkF K.m pc L (v :: S)) := by
  obtain ⟨locs, X0, -⟩ := X; obtain ⟨hx, -, hby, -⟩ := cx; obtain ⟨d, rfl⟩ := hd
  exact Run.st (fun t q => XS.dup X0.here hx rfl (hb hby d) rfl hc q) k
theorem r_pop {v : Value} (X : Sd K T h cl sl) (cx : Cx K y bytes mx rt R) (hd : Dc bytes pc .pop 1 pc') (hc : v.category = 1) (k : Run K Q T (mkF K.m pc' L (S))) : Run K Q T (mkF K.m pc L (v :: S)) := by
  obtain ⟨locs, X0, -⟩ := X; obtain ⟨hx, -, hby, -⟩ := cx; obtain ⟨d, rfl⟩ := hd
  exact Run.st (fun t q => XT.pop X0.here hx rfl (hb hby d) rfl hc q) k
theorem r_dup2 {v w : Value} (X : Sd K T h cl sl) (cx : Cx K y bytes mx rt R) (hd : Dc bytes pc .dup2 1 pc') (hc : v.category = 1) (hc2 : w.category = 1) (k : Run K Q T (mkF K.m pc' L (v :: w :: v :: w :: S))) : Run K Q T (mkF K.m pc L (v :: w :: S)) := by
  obtain ⟨locs, X0, -⟩ := X; obtain ⟨hx, -, hby, -⟩ := cx; obtain ⟨d, rfl⟩ := hd
  exact Run.st (fun t q => XT.dup2 X0.here hx rfl (hb hby d) rfl hc hc2 q) k
theorem r_dup_x1 {v w : Value} (X : Sd K T h cl sl) (cx : Cx K y bytes mx rt R) (hd : Dc bytes pc .dup_x1 1 pc') (hc : v.category = 1) (hc2 : w.category = 1) (k : Run K Q T (mkF K.m pc' L (v :: w :: v :: S))) : Run K Q T (mkF K.m pc L (v :: w :: S)) := by
  obtain ⟨locs, X0, -⟩ := X; obtain ⟨hx, -, hby, -⟩ := cx; obtain ⟨d, rfl⟩ := hd
  exact Run.st (fun t q => XT.dupX1 X0.here hx rfl (hb hby d) rfl hc hc2 q) k
theorem r_istoreN {i : Fin 4} {x : Int32} (L' : Int32 → Array Slot) (X : Sd K T h cl sl) (cx : Cx K y bytes mx rt R) (hd : Dc bytes pc (.istore_n i) 1 pc') (hl : ∀ v, storeLocals L i.val (.int v) = some (L' v)) (k : ∀ v, v = x → Run K Q T (mkF K.m pc' (L' v) S)) : Run K Q T (mkF K.m pc L (.int x :: S)) := by
  obtain ⟨locs, X0, -⟩ := X; obtain ⟨hx, -, hby, -⟩ := cx; obtain ⟨d, rfl⟩ := hd
  exact Run.st (fun t q => XS.istoreN X0.here hx rfl (hb hby d) rfl (hl x) q) (k x rfl)
theorem r_istore {i : Nat} {x : Int32} (L' : Int32 → Array Slot) (X : Sd K T h cl sl) (cx : Cx K y bytes mx rt R) (hd : Dc bytes pc (.istore i) 2 pc') (hl : ∀ v, storeLocals L i (.int v) = some (L' v)) (k : ∀ v, v = x → Run K Q T (mkF K.m pc' (L' v) S)) : Run K Q T (mkF K.m pc L (.int x :: S)) := by
  obtain ⟨locs, X0, -⟩ := X; obtain ⟨hx, -, hby, -⟩ := cx; obtain ⟨d, rfl⟩ := hd
  exact Run.st (fun t q => XS.istore X0.here hx rfl (hb hby d) rfl (hl x) q) (k x rfl)
theorem r_lstoreN {i : Fin 4} {x : Int64} (L' : Int64 → Array Slot) (X : Sd K T h cl sl) (cx : Cx K y bytes mx rt R) (hd : Dc bytes pc (.lstore_n i) 1 pc') (hl : ∀ v, storeLocals L i.val (.long v) = some (L' v)) (k : ∀ v, v = x → Run K Q T (mkF K.m pc' (L' v) S)) : Run K Q T (mkF K.m pc L (.long x :: S)) := by
  obtain ⟨locs, X0, -⟩ := X; obtain ⟨hx, -, hby, -⟩ := cx; obtain ⟨d, rfl⟩ := hd
  exact Run.st (fun t q => XT.lstoreN X0.here hx rfl (hb hby d) rfl (hl x) q) (k x rfl)
theorem r_lstore {i : Nat} {x : Int64} (L' : Int64 → Array Slot) (X : Sd K T h cl sl) (cx : Cx K y bytes mx rt R) (hd : Dc bytes pc (.lstore i) 2 pc') (hl : ∀ v, storeLocals L i (.long v) = some (L' v)) (k : ∀ v, v = x → Run K Q T (mkF K.m pc' (L' v) S)) : Run K Q T (mkF K.m pc L (.long x :: S)) := by
  obtain ⟨locs, X0, -⟩ := X; obtain ⟨hx, -, hby, -⟩ := cx; obtain ⟨d, rfl⟩ := hd
  exact Run.st (fun t q => XT.lstore X0.here hx rfl (hb hby d) rfl (hl x) q) (k x rfl)
theorem r_astoreN {i : Fin 4} {x : Addr} (L' : Array Slot) (X : Sd K T h cl sl) (cx : Cx K y bytes mx rt R) (hd : Dc bytes pc (.astore_n i) 1 pc') (hl : storeLocals L i.val (.ref x) = some L') (k : Run K Q T (mkF K.m pc' L' S)) : Run K Q T (mkF K.m pc L (.ref x :: S)) := by
  obtain ⟨locs, X0, -⟩ := X; obtain ⟨hx, -, hby, -⟩ := cx; obtain ⟨d, rfl⟩ := hd
  exact Run.st (fun t q => XS.astoreN X0.here hx rfl (hb hby d) rfl rfl hl q) k
theorem r_astore {i : Nat} {x : Addr} (L' : Array Slot) (X : Sd K T h cl sl) (cx : Cx K y bytes mx rt R) (hd : Dc bytes pc (.astore i) 2 pc') (hl : storeLocals L i (.ref x) = some L') (k : Run K Q T (mkF K.m pc' L' S)) : Run K Q T (mkF K.m pc L (.ref x :: S)) := by
  obtain ⟨locs, X0, -⟩ := X; obtain ⟨hx, -, hby, -⟩ := cx; obtain ⟨d, rfl⟩ := hd
  exact Run.st (fun t q => XS.astore X0.here hx rfl (hb hby d) rfl rfl hl q) k
theorem r_iinc {i : Nat} {cst : Int} {x : Int32} (w : Int32) (L' : Int32 → Array Slot) (X : Sd K T h cl sl) (cx : Cx K y bytes mx rt R) (hd : Dc bytes pc (.iinc i cst) 3 pc') (hv : Int32.ofInt cst = w) (ho : L[i]? = some (.val (.int x))) (hl : ∀ v, storeLocals L i (.int v) = some (L' v)) (k : ∀ v, v = x + w → Run K Q T (mkF K.m pc' (L' v) S)) : Run K Q T (mkF K.m pc L S) := by
  obtain ⟨locs, X0, -⟩ := X; obtain ⟨hx, -, hby, -⟩ := cx; obtain ⟨d, rfl⟩ := hd
  exact Run.st (fun t q => XT.iincV X0.here hx rfl w (hb hby d) hv ho (hl _) q) (k _ rfl)
theorem r_goto {o : Int} (X : Sd K T h cl sl) (cx : Cx K y bytes mx rt R) (hd : Db bytes pc (.goto o) o pc' pt) (k : Run K Q T (mkF K.m pt L S)) : Run K Q T (mkF K.m pc L S) := by
  obtain ⟨locs, X0, -⟩ := X; obtain ⟨hx, -, hby, -⟩ := cx; obtain ⟨d, -, ho, hp⟩ := hd
  exact Run.st (fun t q => XS.goto X0.here hx rfl (pc0 := pc) rfl (hb hby d) ho hp q) k
theorem r_icmpeq {o : Int} {a b : Int32} (X : Sd K T h cl sl) (cx : Cx K y bytes mx rt R) (hd : Db bytes pc (.if_icmp .eq o) o pc' pt) (k1 : a = b → Run K Q T (mkF K.m pt L S)) (k2 : ¬ a = b → Run K Q T (mkF K.m pc' L S)) : Run K Q T (mkF K.m pc L (.int b :: .int a :: S)) := by
  obtain ⟨locs, X0, -⟩ := X; obtain ⟨hx, -, hby, -⟩ := cx; obtain ⟨d, rfl, ho, hp⟩ := hd
  by_cases q : a = b
  · exact Run.st (fun t u => XS.icmpYes X0.here hx rfl (pc0 := pc) rfl (hb hby d) rfl (XT.ii_eq_t q) ho hp u) (k1 q)
  · exact Run.st (fun t u => XS.icmpNo X0.here hx rfl (hb hby d) rfl (XT.ii_eq_f q) u) (k2 q)
theorem r_ifeq {o : Int} {a : Int32} (X : Sd K T h cl sl) (cx : Cx K y bytes mx rt R) (hd : Db bytes pc (.ifCond .eq o) o pc' pt) (k1 : a = 0 → Run K Q T (mkF K.m pt L S)) (k2 : ¬ a = 0 → Run K Q T (mkF K.m pc' L S)) : Run K Q T (mkF K.m pc L (.int a :: S)) := by
  obtain ⟨locs, X0, -⟩ := X; obtain ⟨hx, -, hby, -⟩ := cx; obtain ⟨d, rfl, ho, hp⟩ := hd
  by_cases q : a = 0
  · exact Run.st (fun t u => XS.ifYes X0.here hx rfl (pc0 := pc) rfl (hb hby d) rfl (XT.i0_eq_t q) ho hp u) (k1 q)
  · exact Run.st (fun t u => XS.ifNo X0.here hx rfl (hb hby d) rfl (XT.i0_eq_f q) u) (k2 q)
theorem r_lcmpeq {o : Int} {a b : Int64} (X : Sd K T h cl sl) (cx : Cx K y bytes mx rt R) (hd : Db bytes pc (.ifCond .eq o) o pc' pt) (k1 : a = b → Run K Q T (mkF K.m pt L S)) (k2 : ¬ a = b → Run K Q T (mkF K.m pc' L S)) : Run K Q T (mkF K.m pc L (.int (XT.cmpL a b) :: S)) := by
  obtain ⟨locs, X0, -⟩ := X; obtain ⟨hx, -, hby, -⟩ := cx; obtain ⟨d, rfl, ho, hp⟩ := hd
  by_cases q : a = b
  · exact Run.st (fun t u => XS.ifYes X0.here hx rfl (pc0 := pc) rfl (hb hby d) rfl (XT.ll_eq_t q) ho hp u) (k1 q)
  · exact Run.st (fun t u => XS.ifNo X0.here hx rfl (hb hby d) rfl (XT.ll_eq_f q) u) (k2 q)
theorem r_icmpne {o : Int} {a b : Int32} (X : Sd K T h cl sl) (cx : Cx K y bytes mx rt R) (hd : Db bytes pc (.if_icmp .ne o) o pc' pt) (k1 : ¬ a = b → Run K Q T (mkF K.m pt L S)) (k2 : a = b → Run K Q T (mkF K.m pc' L S)) : Run K Q T (mkF K.m pc L (.int b :: .int a :: S)) := by
  obtain ⟨locs, X0, -⟩ := X; obtain ⟨hx, -, hby, -⟩ := cx; obtain ⟨d, rfl, ho, hp⟩ := hd
  by_cases q : a = b
  · exact Run.st (fun t u => XS.icmpNo X0.here hx rfl (hb hby d) rfl (XT.ii_ne_f q) u) (k2 q)
  · exact Run.st (fun t u => XS.icmpYes X0.here hx rfl (pc0 := pc) rfl (hb hby d) rfl (XT.ii_ne_t q) ho hp u) (k1 q)
theorem r_ifne {o : Int} {a : Int32} (X : Sd K T h cl sl) (cx : Cx K y bytes mx rt R) (hd : Db bytes pc (.ifCond .ne o) o pc' pt) (k1 : ¬ a = 0 → Run K Q T (mkF K.m pt L S)) (k2 : a = 0 → Run K Q T (mkF K.m pc' L S)) : Run K Q T (mkF K.m pc L (.int a :: S)) := by
  obtain ⟨locs, X0, -⟩ := X; obtain ⟨hx, -, hby, -⟩ := cx; obtain ⟨d, rfl, ho, hp⟩ := hd
  by_cases q : a = 0
  · exact Run.st (fun t u => XS.ifNo X0.here hx rfl (hb hby d) rfl (XT.i0_ne_f q) u) (k2 q)
  · exact Run.st (fun t u => XS.ifYes X0.here hx rfl (pc0 := pc) rfl (hb hby d) rfl (XT.i0_ne_t q) ho hp u) (k1 q)
theorem r_lcmpne {o : Int} {a b : Int64} (X : Sd K T h cl sl) (cx : Cx K y bytes mx rt R) (hd : Db bytes pc (.ifCond .ne o) o pc' pt) (k1 : ¬ a = b → Run K Q T (mkF K.m pt L S)) (k2 : a = b → Run K Q T (mkF K.m pc' L S)) : Run K Q T (mkF K.m pc L (.int (XT.cmpL a b) :: S)) := by
  obtain ⟨locs, X0, -⟩ := X; obtain ⟨hx, -, hby, -⟩ := cx; obtain ⟨d, rfl, ho, hp⟩ := hd
  by_cases q : a = b
  · exact Run.st (fun t u => XS.ifNo X0.here hx rfl (hb hby d) rfl (XT.ll_ne_f q) u) (k2 q)
  · exact Run.st (fun t u => XS.ifYes X0.here hx rfl (pc0 := pc) rfl (hb hby d) rfl (XT.ll_ne_t q) ho hp u) (k1 q)
theorem r_icmplt {o : Int} {a b : Int32} (X : Sd K T h cl sl) (cx : Cx K y bytes mx rt R) (hd : Db bytes pc (.if_icmp .lt o) o pc' pt) (k1 : a < b → Run K Q T (mkF K.m pt L S)) (k2 : ¬ a < b → Run K Q T (mkF K.m pc' L S)) : Run K Q T (mkF K.m pc L (.int b :: .int a :: S)) := by
  obtain ⟨locs, X0, -⟩ := X; obtain ⟨hx, -, hby, -⟩ := cx; obtain ⟨d, rfl, ho, hp⟩ := hd
  by_cases q : a < b
  · exact Run.st (fun t u => XS.icmpYes X0.here hx rfl (pc0 := pc) rfl (hb hby d) rfl (XT.ii_lt_t q) ho hp u) (k1 q)
  · exact Run.st (fun t u => XS.icmpNo X0.here hx rfl (hb hby d) rfl (XT.ii_lt_f q) u) (k2 q)
theorem r_iflt {o : Int} {a : Int32} (X : Sd K T h cl sl) (cx : Cx K y bytes mx rt R) (hd : Db bytes pc (.ifCond .lt o) o pc' pt) (k1 : a < 0 → Run K Q T (mkF K.m pt L S)) (k2 : ¬ a < 0 → Run K Q T (mkF K.m pc' L S)) : Run K Q T (mkF K.m pc L (.int a :: S)) := by
  obtain ⟨locs, X0, -⟩ := X; obtain ⟨hx, -, hby, -⟩ := cx; obtain ⟨d, rfl, ho, hp⟩ := hd
  by_cases q : a < 0
  · exact Run.st (fun t u => XS.ifYes X0.here hx rfl (pc0 := pc) rfl (hb hby d) rfl (XT.i0_lt_t q) ho hp u) (k1 q)
  · exact Run.st (fun t u => XS.ifNo X0.here hx rfl (hb hby d) rfl (XT.i0_lt_f q) u) (k2 q)
theorem r_lcmplt {o : Int} {a b : Int64} (X : Sd K T h cl sl) (cx : Cx K y bytes mx rt R) (hd : Db bytes pc (.ifCond .lt o) o pc' pt) (k1 : a < b → Run K Q T (mkF K.m pt L S)) (k2 : ¬ a < b → Run K Q T (mkF K.m pc' L S)) : Run K Q T (mkF K.m pc L (.int (XT.cmpL a b) :: S)) := by
  obtain ⟨locs, X0, -⟩ := X; obtain ⟨hx, -, hby, -⟩ := cx; obtain ⟨d, rfl, ho, hp⟩ := hd
  by_cases q : a < b
  · exact Run.st (fun t u => XS.ifYes X0.here hx rfl (pc0 := pc) rfl (hb hby d) rfl (XT.ll_lt_t q) ho hp u) (k1 q)
  · exact Run.st (fun t u => XS.ifNo X0.here hx rfl (hb hby d) rfl (XT.ll_lt_f q) u) (k2 q)
theorem r_icmpge {o : Int} {a b : Int32} (X : Sd K T h cl sl) (cx : Cx K y bytes mx rt R) (hd : Db bytes pc (.if_icmp .ge o) o pc' pt) (k1 : ¬ a < b → Run K Q T (mkF K.m pt L S)) (k2 : a < b → Run K Q T (mkF K.m pc' L S)) : Run K Q T (mkF K.m pc L (.int b :: .int a :: S)) := by
  obtain ⟨locs, X0, -⟩ := X; obtain ⟨hx, -, hby, -⟩ := cx; obtain ⟨d, rfl, ho, hp⟩ := hd
  by_cases q : a < b
  · exact Run.st (fun t u => XS.icmpNo X0.here hx rfl (hb hby d) rfl (XT.ii_ge_f q) u) (k2 q)
  · exact Run.st (fun t u => XS.icmpYes X0.here hx rfl (pc0 := pc) rfl (hb hby d) rfl (XT.ii_ge_t q) ho hp u) (k1 q)
theorem r_ifge {o : Int} {a : Int32} (X : Sd K T h cl sl) (cx : Cx K y bytes mx rt R) (hd : Db bytes pc (.ifCond .ge o) o pc' pt) (k1 : ¬ a < 0 → Run K Q T (mkF K.m pt L S)) (k2 : a < 0 → Run K Q T (mkF K.m pc' L S)) : Run K Q T (mkF K.m pc L (.int a :: S)) := by
  obtain ⟨locs, X0, -⟩ := X; obtain ⟨hx, -, hby, -⟩ := cx; obtain ⟨d, rfl, ho, hp⟩ := hd
  by_cases q : a < 0
  · exact Run.st (fun t u => XS.ifNo X0.here hx rfl (hb hby d) rfl (XT.i0_ge_f q) u) (k2 q)
  · exact Run.st (fun t u => XS.ifYes X0.here hx rfl (pc0 := pc) rfl (hb hby d) rfl (XT.i0_ge_t q) ho hp u) (k1 q)
theorem r_lcmpge {o : Int} {a b : Int64} (X : Sd K T h cl sl) (cx : Cx K y bytes mx rt R) (hd : Db bytes pc (.ifCond .ge o) o pc' pt) (k1 : ¬ a < b → Run K Q T (mkF K.m pt L S)) (k2 : a < b → Run K Q T (mkF K.m pc' L S)) : Run K Q T (mkF K.m pc L (.int (XT.cmpL a b) :: S)) := by
  obtain ⟨locs, X0, -⟩ := X; obtain ⟨hx, -, hby, -⟩ := cx; obtain ⟨d, rfl, ho, hp⟩ := hd
  by_cases q : a < b
  · exact Run.st (fun t u => XS.ifNo X0.here hx rfl (hb hby d) rfl (XT.ll_ge_f q) u) (k2 q)
  · exact Run.st (fun t u => XS.ifYes X0.here hx rfl (pc0 := pc) rfl (hb hby d) rfl (XT.ll_ge_t q) ho hp u) (k1 q)
theorem r_icmpgt {o : Int} {a b : Int32} (X : Sd K T h cl sl) (cx : Cx K y bytes mx rt R) (hd : Db bytes pc (.if_icmp .gt o) o pc' pt) (k1 : b < a → Run K Q T (mkF K.m pt L S)) (k2 : ¬ b < a → Run K Q T (mkF K.m pc' L S)) : Run K Q T (mkF K.m pc L (.int b :: .int a :: S)) := by
  obtain ⟨locs, X0, -⟩ := X; obtain ⟨hx, -, hby, -⟩ := cx; obtain ⟨d, rfl, ho, hp⟩ := hd
  by_cases q : b < a
  · exact Run.st (fun t u => XS.icmpYes X0.here hx rfl (pc0 := pc) rfl (hb hby d) rfl (XT.ii_gt_t q) ho hp u) (k1 q)
  · exact Run.st (fun t u => XS.icmpNo X0.here hx rfl (hb hby d) rfl (XT.ii_gt_f q) u) (k2 q)
theorem r_ifgt {o : Int} {a : Int32} (X : Sd K T h cl sl) (cx : Cx K y bytes mx rt R) (hd : Db bytes pc (.ifCond .gt o) o pc' pt) (k1 : 0 < a → Run K Q T (mkF K.m pt L S)) (k2 : ¬ 0 < a → Run K Q T (mkF K.m pc' L S)) : Run K Q T (mkF K.m pc L (.int a :: S)) := by
  obtain ⟨locs, X0, -⟩ := X; obtain ⟨hx, -, hby, -⟩ := cx; obtain ⟨d, rfl, ho, hp⟩ := hd
  by_cases q : 0 < a
  · exact Run.st (fun t u => XS.ifYes X0.here hx rfl (pc0 := pc) rfl (hb hby d) rfl (XT.i0_gt_t q) ho hp u) (k1 q)
  · exact Run.st (fun t u => XS.ifNo X0.here hx rfl (hb hby d) rfl (XT.i0_gt_f q) u) (k2 q)
theorem r_lcmpgt {o : Int} {a b : Int64} (X : Sd K T h cl sl) (cx : Cx K y bytes mx rt R) (hd : Db bytes pc (.ifCond .gt o) o pc' pt) (k1 : b < a → Run K Q T (mkF K.m pt L S)) (k2 : ¬ b < a → Run K Q T (mkF K.m pc' L S)) : Run K Q T (mkF K.m pc L (.int (XT.cmpL a b) :: S)) := by
  obtain ⟨locs, X0, -⟩ := X; obtain ⟨hx, -, hby, -⟩ := cx; obtain ⟨d, rfl, ho, hp⟩ := hd
  by_cases q : b < a
  · exact Run.st (fun t u => XS.ifYes X0.here hx rfl (pc0 := pc) rfl (hb hby d) rfl (XT.ll_gt_t q) ho hp u) (k1 q)
  · exact Run.st (fun t u => XS.ifNo X0.here hx rfl (hb hby d) rfl (XT.ll_gt_f q) u) (k2 q)
theorem r_icmple {o : Int} {a b : Int32} (X : Sd K T h cl sl) (cx : Cx K y bytes mx rt R) (hd : Db bytes pc (.if_icmp .le o) o pc' pt) (k1 : ¬ b < a → Run K Q T (mkF K.m pt L S)) (k2 : b < a → Run K Q T (mkF K.m pc' L S)) : Run K Q T (mkF K.m pc L (.int b :: .int a :: S)) := by
  obtain ⟨locs, X0, -⟩ := X; obtain ⟨hx, -, hby, -⟩ := cx; obtain ⟨d, rfl, ho, hp⟩ := hd
  by_cases q : b < a
  · exact Run.st (fun t u => XS.icmpNo X0.here hx rfl (hb hby d) rfl (XT.ii_le_f q) u) (k2 q)
  · exact Run.st (fun t u => XS.icmpYes X0.here hx rfl (pc0 := pc) rfl (hb hby d) rfl (XT.ii_le_t q) ho hp u) (k1 q)
theorem r_ifle {o : Int} {a : Int32} (X : Sd K T h cl sl) (cx : Cx K y bytes mx rt R) (hd : Db bytes pc (.ifCond .le o) o pc' pt) (k1 : ¬ 0 < a → Run K Q T (mkF K.m pt L S)) (k2 : 0 < a → Run K Q T (mkF K.m pc' L S)) : Run K Q T (mkF K.m pc L (.int a :: S)) := by
  obtain ⟨locs, X0, -⟩ := X; obtain ⟨hx, -, hby, -⟩ := cx; obtain ⟨d, rfl, ho, hp⟩ := hd
  by_cases q : 0 < a
  · exact Run.st (fun t u => XS.ifNo X0.here hx rfl (hb hby d) rfl (XT.i0_le_f q) u) (k2 q)
  · exact Run.st (fun t u => XS.ifYes X0.here hx rfl (pc0 := pc) rfl (hb hby d) rfl (XT.i0_le_t q) ho hp u) (k1 q)
theorem r_lcmple {o : Int} {a b : Int64} (X : Sd K T h cl sl) (cx : Cx K y bytes mx rt R) (hd : Db bytes pc (.ifCond .le o) o pc' pt) (k1 : ¬ b < a → Run K Q T (mkF K.m pt L S)) (k2 : b < a → Run K Q T (mkF K.m pc' L S)) : Run K Q T (mkF K.m pc L (.int (XT.cmpL a b) :: S)) := by
  obtain ⟨locs, X0, -⟩ := X; obtain ⟨hx, -, hby, -⟩ := cx; obtain ⟨d, rfl, ho, hp⟩ := hd
  by_cases q : b < a
  · exact Run.st (fun t u => XS.ifNo X0.here hx rfl (hb hby d) rfl (XT.ll_le_f q) u) (k2 q)
  · exact Run.st (fun t u => XS.ifYes X0.here hx rfl (pc0 := pc) rfl (hb hby d) rfl (XT.ll_le_t q) ho hp u) (k1 q)
theorem r_ldc {i : Nat} {v : Int32} {a0 : Array Value} (X : Sd K T h cl sl) (cx : Cx K y bytes mx rt R) (hd : Dc bytes pc (.ldc i) 2 pc') (w : (Cond.constant y.cls i v).before a0 K.Z = true) (k : Run K Q T (mkF K.m pc' L (.int v :: S))) : Run K Q T (mkF K.m pc L S) := by
  obtain ⟨locs, X0, -⟩ := X; obtain ⟨hx, hZ, hby, -, hown, -⟩ := cx; obtain ⟨d, rfl⟩ := hd
  exact Run.st (fun t q => Jvm.Stand.ldcI X0 hx hown (mv hZ w) rfl (hb hby d) q) k
theorem r_ldcW {i : Nat} {v : Int32} {a0 : Array Value} (X : Sd K T h cl sl) (cx : Cx K y bytes mx rt R) (hd : Dc bytes pc (.ldc_w i) 3 pc') (w : (Cond.constant y.cls i v).before a0 K.Z = true) (k : Run K Q T (mkF K.m pc' L (.int v :: S))) : Run K Q T (mkF K.m pc L S) := by
  obtain ⟨locs, X0, -⟩ := X; obtain ⟨hx, hZ, hby, -, hown, -⟩ := cx; obtain ⟨d, rfl⟩ := hd
  exact Run.st (fun t q => Jvm.Stand.ldcWI X0 hx hown (mv hZ w) rfl (hb hby d) q) k
theorem r_ldc2 {i : Nat} {v : Int64} {a0 : Array Value} (X : Sd K T h cl sl) (cx : Cx K y bytes mx rt R) (hd : Dc bytes pc (.ldc2_w i) 3 pc') (w : (Cond.constantLong y.cls i v).before a0 K.Z = true) (k : Run K Q T (mkF K.m pc' L (.long v :: S))) : Run K Q T (mkF K.m pc L S) := by
  obtain ⟨locs, X0, -⟩ := X; obtain ⟨hx, hZ, hby, -, hown, -⟩ := cx; obtain ⟨d, rfl⟩ := hd
  exact Run.st (fun t q => Jvm.Stand.ldc2J X0 hx hown (mv hZ w) rfl (hb hby d) q) k
theorem fin {v : Option Value} (X : Sd K T h cl sl) (cx : Cx K y bytes mx rt R) (hv : rt = none → v = none) (hc : cl ≤ R.cells) (hs : sl ≤ R.slots) (hq : Q v h) {g : JFrame}
    (st : ∀ fs, (∀ (f : JFrame) (acts : List Action), f.method = K.m → f.locked = none → f.entered = [] → (doReturn K.e (T.setTop f) acts v).1 = T.setFrames fs) → Steps K.p.tables K.e K.below (T.setTop g) (T.setFrames fs)) : Run K Q T g := by
  obtain ⟨locs, X0, N, hz, eT⟩ := X
  obtain ⟨hx, hZ, hby, hml, hown, hret, hlk, hR, hnm⟩ := cx
  obtain ⟨fs, hr, hrun, hended, hW, hsame⟩ := X0.leave (v := v) (fun q => hv (hret.symm.trans q)) hlk
  refine ⟨_, v, locs, st fs hr, hrun, hended, ?_, N, ⟨_, rfl⟩, hW, hsame.mono (by rw [hR]; exact hc) (by rw [hR]; exact hs)⟩
  show Q v T.heap
  rw [eT]; exact hq
theorem r_ireturn {z : Int32} (X : Sd K T h cl sl) (cx : Cx K y bytes mx (some .int) R) (hd : Dc bytes pc .ireturn 1 pc') (hc : cl ≤ R.cells) (hs : sl ≤ R.slots) (hq : Q (some (.int z)) h) : Run K Q T (mkF K.m pc L (.int z :: S)) := by
  refine fin X cx (fun q => nomatch q) hc hs hq fun fs hr => ?_
  obtain ⟨locs, X0, -⟩ := X; obtain ⟨hx, -, hby, -, -, hret, -⟩ := cx; obtain ⟨d, rfl⟩ := hd
  exact retI X0 hx hret (hb hby d) hr
theorem r_zreturn {z : Int32} (X : Sd K T h cl sl) (cx : Cx K y bytes mx (some .boolean) R) (hd : Dc bytes pc .ireturn 1 pc') (hc : cl ≤ R.cells) (hs : sl ≤ R.slots) (hq : Q (some (.int (nar .boolean z))) h) : Run K Q T (mkF K.m pc L (.int z :: S)) := by
  refine fin X cx (fun q => nomatch q) hc hs hq fun fs hr => ?_
  obtain ⟨locs, X0, -⟩ := X; obtain ⟨hx, -, hby, -, -, hret, -⟩ := cx; obtain ⟨d, rfl⟩ := hd
  exact retN X0 hx (t := .boolean) hret (by simp) (hb hby d) hr
theorem r_lreturn {z : Int64} (X : Sd K T h cl sl) (cx : Cx K y bytes mx (some .long) R) (hd : Dc bytes pc .lreturn 1 pc') (hc : cl ≤ R.cells) (hs : sl ≤ R.slots) (hq : Q (some (.long z)) h) : Run K Q T (mkF K.m pc L [.long z]) := by
  refine fin X cx (fun q => nomatch q) hc hs hq fun fs hr => ?_
  obtain ⟨locs, X0, -⟩ := X; obtain ⟨hx, -, hby, -, -, hret, -⟩ := cx; obtain ⟨d, rfl⟩ := hd
  exact X0.lreturnOut hx hret (hb hby d) hr
theorem r_areturn {z : Addr} {ty : FieldType} (X : Sd K T h cl sl) (cx : Cx K y bytes mx (some ty) R) (hty : ty.isReference = true) (hd : Dc bytes pc .areturn 1 pc') (hc : cl ≤ R.cells) (hs : sl ≤ R.slots) (hq : Q (some (.ref z)) h) : Run K Q T (mkF K.m pc L [.ref z]) := by
  refine fin X cx (fun q => nomatch q) hc hs hq fun fs hr => ?_
  obtain ⟨locs, X0, -⟩ := X; obtain ⟨hx, -, hby, -, -, hret, -⟩ := cx; obtain ⟨d, rfl⟩ := hd
  exact X0.areturnOut hx rfl hret hty (hb hby d) hr
theorem r_return (X : Sd K T h cl sl) (cx : Cx K y bytes mx none R) (hd : Dc bytes pc .return_ 1 pc') (hc : cl ≤ R.cells) (hs : sl ≤ R.slots) (hq : Q none h) : Run K Q T (mkF K.m pc L []) := by
  refine fin X cx (fun _ => rfl) hc hs hq fun fs hr => ?_
  obtain ⟨locs, X0, -⟩ := X; obtain ⟨hx, -, hby, -, -, hret, -⟩ := cx; obtain ⟨d, rfl⟩ := hd
  exact X0.returnOut hx hret (hb hby d) hr
/-! fields -/
theorem r_getfield {O n d : String} {i : Nat} {a : Addr} {v : Value} {a0 : Array Value} (X : Sd K T h cl sl) (cx : Cx K y bytes mx rt R) (hd : Dc bytes pc (.getfield i) 3 pc') (w : (Cond.fieldLink y.cls i O n d).before a0 K.Z = true) (F : Fld K.Z h a O n d v) (k : ∀ T', Sd K T' h cl sl → Run K Q T' (mkF K.m pc' L (v :: S))) : Run K Q T (mkF K.m pc L (.ref a :: S)) := by
  obtain ⟨locs, X0, N, hz, eT⟩ := X; obtain ⟨hx, hZ, hby, -, hown, -⟩ := cx; obtain ⟨dd, rfl⟩ := hd
  obtain ⟨T1, X1, e1, st1⟩ := getF X0 hx hZ hown (host := "") (Or.inl w) Via.refl eT F (g := mkF K.m pc L (.ref a :: S)) rfl rfl (hb hby dd)
  exact Run.st st1 (k T1 ⟨locs, X1, N, hz, e1⟩)
theorem r_getfieldN {O n d host : String} {i : Nat} {a : Addr} {v : Value} {a0 : Array Value} (X : Sd K T h cl sl) (cx : Cx K y bytes mx rt R) (hd : Dc bytes pc (.getfield i) 3 pc') (w : (Cond.fieldLinkNest y.cls i O n d host).before a0 K.Z = true) (F : Fld K.Z h a O n d v) (k : ∀ T', Sd K T' h cl sl → Run K Q T' (mkF K.m pc' L (v :: S))) : Run K Q T (mkF K.m pc L (.ref a :: S)) := by
  obtain ⟨locs, X0, N, hz, eT⟩ := X; obtain ⟨hx, hZ, hby, -, hown, -⟩ := cx; obtain ⟨dd, rfl⟩ := hd
  obtain ⟨T1, X1, e1, st1⟩ := getF X0 hx hZ hown (host := host) (Or.inr w) Via.refl eT F (g := mkF K.m pc L (.ref a :: S)) rfl rfl (hb hby dd)
  exact Run.st st1 (k T1 ⟨locs, X1, N, hz, e1⟩)
theorem r_putfield {O n d C : String} {i kk : Nat} {a : Addr} {v old : Value} {ty : FieldType} {a0 : Array Value} (X : Sd K T h cl sl) (cx : Cx K y bytes mx rt R) (hd : Dc bytes pc (.putfield i) 3 pc') (w : (Cond.fieldLink y.cls i O n d).before a0 K.Z = true) (F : Fld K.Z h a O n d old) (E : Exa K.Z h a C) (hL : (Cond.lays C O n d).before a0 K.Z = true ∨ ((Cond.laysFinal C O n d).before a0 K.Z = true ∧ y.cls = O ∧ y.name = "<init>")) (wi : (Cond.instantiable C kk).before a0 K.Z = true)
    (hty : parseFieldDescriptor d = some ty) (hn : narrow ty v = v) (hf : fits ty v = true) (ge : K.n0 ≤ a) (k : ∀ T' h', Sd K T' h' cl sl → Wr h h' a (Jvm.RoadKit.slotOf K.Z O n d) v → Fld K.Z h' a O n d v → Run K Q T' (mkF K.m pc' L S)) : Run K Q T (mkF K.m pc L (v :: .ref a :: S)) := by
  obtain ⟨locs, X0, N, hz, eT⟩ := X; obtain ⟨hx, hZ, hby, -, hown, -, -, -, hnm⟩ := cx; obtain ⟨dd, rfl⟩ := hd
  obtain ⟨T1, h1, X1, e1, W1, st1⟩ := putF X0 hx hZ hown (host := "") (Or.inl w) Via.refl eT F E (hL.imp id fun q => ⟨q.1, q.2.1, hnm.trans q.2.2⟩) wi hty hn hf (g := mkF K.m pc L (v :: .ref a :: S)) rfl rfl (hb hby dd)
  exact Run.st st1 (k T1 h1 ⟨_, X1, Fr.snoc X1 N ge, by rw [W1.size]; exact hz, e1⟩ W1 (F.same W1))
theorem r_new {C : String} {i n : Nat} {a0 : Array Value} (X : Sd K T h cl sl) (cx : Cx K y bytes mx rt R) (hd : Dc bytes pc (.new i) 3 pc') (w : (Cond.classLink y.cls i C).before a0 K.Z = true) (wi : (Cond.instantiable C n).before a0 K.Z = true) (wz : (Cond.initialized C).before a0 K.Z = true) (hc : cl + 1 ≤ R.cells) (hs : sl + n ≤ R.slots)
    (k : ∀ T' h' a, a = h.size → K.n0 ≤ a → Sd K T' h' (cl + 1) (sl + n) → Ext h h' → Exa K.Z h' a C → (∀ {O nm d : String} {ty : FieldType}, Laid K.Z a0 C O nm d → parseFieldDescriptor d = some ty → Fld K.Z h' a O nm d (defaultValue ty)) → Run K Q T' (mkF K.m pc' L (.ref a :: S))) : Run K Q T (mkF K.m pc L S) := by
  obtain ⟨locs, X0, N, hz, eT⟩ := X; obtain ⟨hx, hZ, hby, -, hown, -, -, hR, -⟩ := cx; obtain ⟨dd, rfl⟩ := hd
  obtain ⟨T1, h1, X1, e1, E1, A1, D1, -, st1⟩ := newO X0 hx hZ hown w wi wz eT (g := mkF K.m pc L S) rfl (hb hby dd) (by rw [hR]; exact hc) (by rw [hR]; exact hs)
  exact Run.st st1 (k T1 h1 h.size rfl hz ⟨locs, X1, N, Nat.le_trans hz E1.1, e1⟩ E1 A1 D1)
theorem r_initO {i : Nat} {a : Addr} {a0 : Array Value} (X : Sd K T h cl sl) (cx : Cx K y bytes mx rt R) (hd : Dc bytes pc (.invokespecial i) 3 pc') (w1 : (Cond.methodLink y.cls i Lib.objectInit).before a0 K.Z = true) (w2 : (Cond.instanceMethod Lib.objectInit).before a0 K.Z = true) (w3 : (Cond.code Lib.objectInit ⟨#[0xb1]⟩ 1 none).before a0 K.Z = true) (hsz : L.size = mx) (hf : 1 ≤ R.frames) (hl : (S.map fun v => v.category).sum + 12 ≤ R.locals) (k : ∀ T', Sd K T' h cl sl → Run K Q T' (mkF K.m pc' L S)) : Run K Q T (mkF K.m pc L (.ref a :: S)) := by
  obtain ⟨locs, X0, N, hz, eT⟩ := X; obtain ⟨hx, hZ, hby, hml, hown, -, -, hR, -⟩ := cx; obtain ⟨dd, rfl⟩ := hd
  obtain ⟨T1, X1, e1, st1⟩ := initO X0 hx hZ hown w1 w2 w3 eT (g := mkF K.m pc L (.ref a :: S)) rfl (by rw [hml]; exact hsz) rfl (hb hby dd) (by rw [hR]; exact hf) (W := (S.map fun v => v.category).sum) (by show 2 * 0 + _ ≤ _; omega) (by rw [hR]; exact hl)
  exact Run.st st1 (k T1 ⟨locs, X1, N, hz, e1⟩)
end Rules
/-! arrays: their whole list of values -/
def AV (Z : State) (h : Heap) (a : Addr) (ty : FieldType) (vs : List Value) : Prop := ∃ c : Cell, Arr Z h a c ty ∧ c.slots.toList = vs ∧ vs.length < 2 ^ 31
def AI (ty : FieldType) (Z : State) (h : Heap) (a : Addr) (xs : List Int32) : Prop := AV Z h a ty (xs.map Value.int)
def AJ (Z : State) (h : Heap) (a : Addr) (xs : List Int64) : Prop := AV Z h a .long (xs.map Value.long)
theorem AV.ext {Z : State} {h h' : Heap} {a : Addr} {ty : FieldType} {vs : List Value} (A : AV Z h a ty vs) (E : Ext h h') : AV Z h' a ty vs := by obtain ⟨c, q, r⟩ := A; exact ⟨c, q.ext E, r⟩
theorem AV.other {Z : State} {h h' : Heap} {a b : Addr} {ty : FieldType} {vs : List Value} {sl : Nat} {v : Value} (A : AV Z h a ty vs) (W : Wr h h' b sl v) (q : a ≠ b) : AV Z h' a ty vs := by obtain ⟨c, u, r⟩ := A; exact ⟨c, u.other W q, r⟩
theorem AV.keep {Z : State} {h h' : Heap} {a : Addr} {ty : FieldType} {vs : List Value} {ws : List Addr} (A : AV Z h a ty vs) (k : Keep h h' ws) (q : a ∉ ws) : AV Z h' a ty vs := by obtain ⟨c, u, r⟩ := A; exact ⟨c, ⟨k.2.1 a c u.1 q, u.2⟩, r⟩
theorem AV.lt {Z : State} {h : Heap} {a : Addr} {ty : FieldType} {vs : List Value} (A : AV Z h a ty vs) : a < h.size := by obtain ⟨c, u, r⟩ := A; exact u.lt
theorem AV.len {Z : State} {h : Heap} {a : Addr} {ty : FieldType} {vs : List Value} (A : AV Z h a ty vs) : vs.length < 2 ^ 31 := by obtain ⟨c, u, r, q⟩ := A; exact q
theorem AV.set {Z : State} {h h' : Heap} {a : Addr} {ty : FieldType} {vs : List Value} {n : Nat} {v : Value} (A : AV Z h a ty vs) (W : Wr h h' a n v) : AV Z h' a ty (vs.set n v) := by
  obtain ⟨c, u, r, q⟩ := A
  refine ⟨_, u.same W, ?_, by simpa using q⟩
  subst r
  simp [Cell.setSlot]
section
variable {ty : FieldType} {Z : State} {h h' : Heap} {a b : Addr} {xs : List Int32} {zs : List Int64} {sl : Nat} {v : Value} {ws : List Addr}
theorem AI.ext (A : AI ty Z h a xs) (E : Ext h h') : AI ty Z h' a xs := AV.ext A E
theorem AI.other (A : AI ty Z h a xs) (W : Wr h h' b sl v) (q : a ≠ b) : AI ty Z h' a xs := AV.other A W q
theorem AI.keep (A : AI ty Z h a xs) (k : Keep h h' ws) (q : a ∉ ws) : AI ty Z h' a xs := AV.keep A k q
theorem AI.lt (A : AI ty Z h a xs) : a < h.size := AV.lt A
theorem AI.len (A : AI ty Z h a xs) : xs.length < 2 ^ 31 := by simpa using AV.len A
theorem AI.set {n : Nat} {x : Int32} (A : AI ty Z h a xs) (W : Wr h h' a n (.int x)) : AI ty Z h' a (xs.set n x) := by
  have q := AV.set A W
  show AV Z h' a ty ((xs.set n x).map Value.int)
  rw [List.map_set]; exact q
theorem AJ.ext (A : AJ Z h a zs) (E : Ext h h') : AJ Z h' a zs := AV.ext A E
theorem AJ.other (A : AJ Z h a zs) (W : Wr h h' b sl v) (q : a ≠ b) : AJ Z h' a zs := AV.other A W q
theorem AJ.keep (A : AJ Z h a zs) (k : Keep h h' ws) (q : a ∉ ws) : AJ Z h' a zs := AV.keep A k q
theorem AJ.lt (A : AJ Z h a zs) : a < h.size := AV.lt A
theorem AJ.len (A : AJ Z h a zs) : zs.length < 2 ^ 31 := by simpa using AV.len A
theorem AJ.set {n : Nat} {x : Int64} (A : AJ Z h a zs) (W : Wr h h' a n (.long x)) : AJ Z h' a (zs.set n x) := by
  have q := AV.set A W
  show AV Z h' a .long ((zs.set n x).map Value.long)
  rw [List.map_set]; exact q
end
theorem ofNat_neg {n : Nat} (hn : n < 2 ^ 31) : ¬ Int32.ofNat n < 0 := by
  rw [Int32.lt_iff_toInt_lt, Int32.toInt_ofNat_of_lt hn]
  show ¬ (n : Int) < 0
  omega
theorem ofNat_clamp {n : Nat} (hn : n < 2 ^ 31) : (Int32.ofNat n).toNatClampNeg = n := by
  show (Int32.ofNat n).toInt.toNat = n
  rw [Int32.toInt_ofNat_of_lt hn]; rfl
section Rules
variable {K : KT} {Q : Option Value → Heap → Prop} {T : State} {h : Heap} {cl sl : Nat} {y : MethodName} {bytes : ByteArray} {mx : Nat} {rt : Option FieldType} {R : Room} {pc pc' pt : Nat} {L : Array Slot} {S : List Value}
theorem r_arraylength {ty : FieldType} {vs : List Value} {a : Addr} (X : Sd K T h cl sl) (cx : Cx K y bytes mx rt R) (hd : Dc bytes pc .arraylength 1 pc') (A : AV K.Z h a ty vs) (k : Run K Q T (mkF K.m pc' L (.int (Int32.ofNat vs.length) :: S))) : Run K Q T (mkF K.m pc L (.ref a :: S)) := by
  obtain ⟨locs, X0, N, hz, eT⟩ := X; obtain ⟨hx, hZ, hby, -, hown, -⟩ := cx; obtain ⟨dd, rfl⟩ := hd
  obtain ⟨c, Ar, hc, hlen⟩ := A
  have hs : c.slots.size = vs.length := by rw [← hc]; simp
  refine Run.st (X0.arraylength hx (cell := c) (by rw [eT]; exact Ar.1) (State.isArrayOf_alike hZ.alike Ar.2.1) (g := mkF K.m pc L (.ref a :: S)) rfl (rest := S) rfl (hb hby dd)) ?_
  rw [hs]; exact k
theorem r_alen {ty : FieldType} {xs : List Int32} {a : Addr} (X : Sd K T h cl sl) (cx : Cx K y bytes mx rt R) (hd : Dc bytes pc .arraylength 1 pc') (A : AI ty K.Z h a xs) (n : Nat) (hn : xs.length = n) (k : Run K Q T (mkF K.m pc' L (.int (Int32.ofNat n) :: S))) : Run K Q T (mkF K.m pc L (.ref a :: S)) :=
  r_arraylength X cx hd A (by rw [List.length_map, hn]; exact k)
theorem r_alenJ {xs : List Int64} {a : Addr} (X : Sd K T h cl sl) (cx : Cx K y bytes mx rt R) (hd : Dc bytes pc .arraylength 1 pc') (A : AJ K.Z h a xs) (n : Nat) (hn : xs.length = n) (k : Run K Q T (mkF K.m pc' L (.int (Int32.ofNat n) :: S))) : Run K Q T (mkF K.m pc L (.ref a :: S)) :=
  r_arraylength X cx hd A (by rw [List.length_map, hn]; exact k)
theorem r_iaload {xs : List Int32} {a : Addr} {j : Int32} {v : Int32} (X : Sd K T h cl sl) (cx : Cx K y bytes mx rt R) (hd : Dc bytes pc .iaload 1 pc') (A : AI .int K.Z h a xs) (n : Nat) (hj : j = Int32.ofNat n) (hv : xs[n]? = some v) (k : Run K Q T (mkF K.m pc' L (.int v :: S))) : Run K Q T (mkF K.m pc L (.int j :: .ref a :: S)) := by
  obtain ⟨locs, X0, N, hz, eT⟩ := X; obtain ⟨hx, hZ, hby, -, hown, -⟩ := cx; obtain ⟨dd, rfl⟩ := hd
  obtain ⟨c, Ar, hc, hlen⟩ := A
  have hs : c.slots.size = xs.length := by have := congrArg List.length hc; simpa using this
  have hl : n < xs.length := (List.getElem?_eq_some_iff.mp hv).1
  have hn : n < 2 ^ 31 := by simp at hlen; omega
  subst hj
  have e1 := ofNat_clamp hn
  have hat : c.slots[(Int32.ofNat n).toNatClampNeg]? = some (.int v) := by
    rw [e1, ← Array.getElem?_toList, hc, List.getElem?_map, hv]; rfl
  exact Run.st (X0.iaload hx (cell := c) (by rw [eT]; exact Ar.1) (State.isArrayOf_alike hZ.alike Ar.2.1) Ar.2.2 (by rw [e1, hs]; intro q; rcases q with q | q; exact ofNat_neg hn q; omega) hat (g := mkF K.m pc L (.int (Int32.ofNat n) :: .ref a :: S)) rfl rfl (hb hby dd)) k
theorem r_saload {xs : List Int32} {a : Addr} {j : Int32} {v : Int32} (X : Sd K T h cl sl) (cx : Cx K y bytes mx rt R) (hd : Dc bytes pc .saload 1 pc') (A : AI .short K.Z h a xs) (n : Nat) (hj : j = Int32.ofNat n) (hv : xs[n]? = some v) (k : Run K Q T (mkF K.m pc' L (.int v :: S))) : Run K Q T (mkF K.m pc L (.int j :: .ref a :: S)) := by
  obtain ⟨locs, X0, N, hz, eT⟩ := X; obtain ⟨hx, hZ, hby, -, hown, -⟩ := cx; obtain ⟨dd, rfl⟩ := hd
  obtain ⟨c, Ar, hc, hlen⟩ := A
  have hs : c.slots.size = xs.length := by have := congrArg List.length hc; simpa using this
  have hl : n < xs.length := (List.getElem?_eq_some_iff.mp hv).1
  have hn : n < 2 ^ 31 := by simp at hlen; omega
  subst hj
  have e1 := ofNat_clamp hn
  have hat : c.slots[(Int32.ofNat n).toNatClampNeg]? = some (.int v) := by
    rw [e1, ← Array.getElem?_toList, hc, List.getElem?_map, hv]; rfl
  exact Run.st (X0.saload hx (cell := c) (by rw [eT]; exact Ar.1) (State.isArrayOf_alike hZ.alike Ar.2.1) Ar.2.2 (by rw [e1, hs]; intro q; rcases q with q | q; exact ofNat_neg hn q; omega) hat (g := mkF K.m pc L (.int (Int32.ofNat n) :: .ref a :: S)) rfl rfl (hb hby dd)) k
theorem r_baload {xs : List Int32} {a : Addr} {j : Int32} {v : Int32} (X : Sd K T h cl sl) (cx : Cx K y bytes mx rt R) (hd : Dc bytes pc .baload 1 pc') (A : AI .byte K.Z h a xs) (n : Nat) (hj : j = Int32.ofNat n) (hv : xs[n]? = some v) (k : Run K Q T (mkF K.m pc' L (.int v :: S))) : Run K Q T (mkF K.m pc L (.int j :: .ref a :: S)) := by
  obtain ⟨locs, X0, N, hz, eT⟩ := X; obtain ⟨hx, hZ, hby, -, hown, -⟩ := cx; obtain ⟨dd, rfl⟩ := hd
  obtain ⟨c, Ar, hc, hlen⟩ := A
  have hs : c.slots.size = xs.length := by have := congrArg List.length hc; simpa using this
  have hl : n < xs.length := (List.getElem?_eq_some_iff.mp hv).1
  have hn : n < 2 ^ 31 := by simp at hlen; omega
  subst hj
  have e1 := ofNat_clamp hn
  have hat : c.slots[(Int32.ofNat n).toNatClampNeg]? = some (.int v) := by
    rw [e1, ← Array.getElem?_toList, hc, List.getElem?_map, hv]; rfl
  exact Run.st (X0.baloadBytes hx (cell := c) (by rw [eT]; exact Ar.1) (State.isArrayOf_alike hZ.alike Ar.2.1) Ar.2.2 (by rw [e1, hs]; intro q; rcases q with q | q; exact ofNat_neg hn q; omega) hat (g := mkF K.m pc L (.int (Int32.ofNat n) :: .ref a :: S)) rfl rfl (hb hby dd)) k
theorem r_laload {xs : List Int64} {a : Addr} {j : Int32} {v : Int64} (X : Sd K T h cl sl) (cx : Cx K y bytes mx rt R) (hd : Dc bytes pc .laload 1 pc') (A : AJ K.Z h a xs) (n : Nat) (hj : j = Int32.ofNat n) (hv : xs[n]? = some v) (k : Run K Q T (mkF K.m pc' L (.long v :: S))) : Run K Q T (mkF K.m pc L (.int j :: .ref a :: S)) := by
  obtain ⟨locs, X0, N, hz, eT⟩ := X; obtain ⟨hx, hZ, hby, -, hown, -⟩ := cx; obtain ⟨dd, rfl⟩ := hd
  obtain ⟨c, Ar, hc, hlen⟩ := A
  have hs : c.slots.size = xs.length := by have := congrArg List.length hc; simpa using this
  have hl : n < xs.length := (List.getElem?_eq_some_iff.mp hv).1
  have hn : n < 2 ^ 31 := by simp at hlen; omega
  subst hj
  have e1 := ofNat_clamp hn
  have hat : c.slots[(Int32.ofNat n).toNatClampNeg]? = some (.long v) := by
    rw [e1, ← Array.getElem?_toList, hc, List.getElem?_map, hv]; rfl
  exact Run.st (X0.laload hx (cell := c) (by rw [eT]; exact Ar.1) (State.isArrayOf_alike hZ.alike Ar.2.1) Ar.2.2 (by rw [e1, hs]; intro q; rcases q with q | q; exact ofNat_neg hn q; omega) hat (g := mkF K.m pc L (.int (Int32.ofNat n) :: .ref a :: S)) rfl rfl (hb hby dd)) k
theorem r_iastore {xs : List Int32} {a : Addr} {j : Int32} {x : Int32} (X : Sd K T h cl sl) (cx : Cx K y bytes mx rt R) (hd : Dc bytes pc .iastore 1 pc') (A : AI .int K.Z h a xs) (n : Nat) (hj : j = Int32.ofNat n) (hl : n < xs.length) (ge : K.n0 ≤ a) (k : ∀ T' h', Sd K T' h' cl sl → Wr h h' a n (.int x) → AI .int K.Z h' a (xs.set n x) → Run K Q T' (mkF K.m pc' L S)) : Run K Q T (mkF K.m pc L (.int x :: .int j :: .ref a :: S)) := by
  obtain ⟨locs, X0, N, hz, eT⟩ := X; obtain ⟨hx, hZ, hby, -, hown, -⟩ := cx; obtain ⟨dd, rfl⟩ := hd
  have A0 := A
  obtain ⟨c, Ar, hc, hlen⟩ := A
  have hs : c.slots.size = xs.length := by have := congrArg List.length hc; simpa using this
  have hn : n < 2 ^ 31 := by simp at hlen; omega
  subst hj
  have e1 := ofNat_clamp hn
  obtain ⟨T1, h1, X1, eh1, W1, st1⟩ := stI X0 hx hZ eT Ar (j := Int32.ofNat n) (x := x) (by rw [e1, hs]; intro q; rcases q with q | q; exact ofNat_neg hn q; omega) (g := mkF K.m pc L (.int x :: .int (Int32.ofNat n) :: .ref a :: S)) rfl rfl (hb hby dd)
  have hz1 : K.n0 ≤ h1.size := by rw [W1.size]; exact hz
  have N1 := Fr.snoc X1 N ge
  rw [e1] at W1
  exact Run.st st1 (k T1 h1 ⟨_, X1, N1, hz1, eh1⟩ W1 (AI.set A0 W1))
theorem r_sastore {xs : List Int32} {a : Addr} {j : Int32} {x : Int32} (X : Sd K T h cl sl) (cx : Cx K y bytes mx rt R) (hd : Dc bytes pc .sastore 1 pc') (A : AI .short K.Z h a xs) (n : Nat) (hj : j = Int32.ofNat n) (hl : n < xs.length) (ge : K.n0 ≤ a) (k : ∀ T' h', Sd K T' h' cl sl → Wr h h' a n (.int (nar .short x)) → AI .short K.Z h' a (xs.set n (nar .short x)) → Run K Q T' (mkF K.m pc' L S)) : Run K Q T (mkF K.m pc L (.int x :: .int j :: .ref a :: S)) := by
  obtain ⟨locs, X0, N, hz, eT⟩ := X; obtain ⟨hx, hZ, hby, -, hown, -⟩ := cx; obtain ⟨dd, rfl⟩ := hd
  have A0 := A
  obtain ⟨c, Ar, hc, hlen⟩ := A
  have hs : c.slots.size = xs.length := by have := congrArg List.length hc; simpa using this
  have hn : n < 2 ^ 31 := by simp at hlen; omega
  subst hj
  have e1 := ofNat_clamp hn
  obtain ⟨T1, h1, X1, eh1, W1, st1⟩ := stS X0 hx hZ eT Ar (j := Int32.ofNat n) (x := x) (by rw [e1, hs]; intro q; rcases q with q | q; exact ofNat_neg hn q; omega) (g := mkF K.m pc L (.int x :: .int (Int32.ofNat n) :: .ref a :: S)) rfl rfl (hb hby dd)
  have hz1 : K.n0 ≤ h1.size := by rw [W1.size]; exact hz
  have N1 := Fr.snoc X1 N ge
  rw [e1] at W1
  exact Run.st st1 (k T1 h1 ⟨_, X1, N1, hz1, eh1⟩ W1 (AI.set A0 W1))
theorem r_bastore {xs : List Int32} {a : Addr} {j : Int32} {x : Int32} (X : Sd K T h cl sl) (cx : Cx K y bytes mx rt R) (hd : Dc bytes pc .bastore 1 pc') (A : AI .byte K.Z h a xs) (n : Nat) (hj : j = Int32.ofNat n) (hl : n < xs.length) (ge : K.n0 ≤ a) (k : ∀ T' h', Sd K T' h' cl sl → Wr h h' a n (.int (nar .byte x)) → AI .byte K.Z h' a (xs.set n (nar .byte x)) → Run K Q T' (mkF K.m pc' L S)) : Run K Q T (mkF K.m pc L (.int x :: .int j :: .ref a :: S)) := by
  obtain ⟨locs, X0, N, hz, eT⟩ := X; obtain ⟨hx, hZ, hby, -, hown, -⟩ := cx; obtain ⟨dd, rfl⟩ := hd
  have A0 := A
  obtain ⟨c, Ar, hc, hlen⟩ := A
  have hs : c.slots.size = xs.length := by have := congrArg List.length hc; simpa using this
  have hn : n < 2 ^ 31 := by simp at hlen; omega
  subst hj
  have e1 := ofNat_clamp hn
  obtain ⟨T1, h1, X1, eh1, W1, st1⟩ := stB X0 hx hZ eT Ar (j := Int32.ofNat n) (x := x) (by rw [e1, hs]; intro q; rcases q with q | q; exact ofNat_neg hn q; omega) (g := mkF K.m pc L (.int x :: .int (Int32.ofNat n) :: .ref a :: S)) rfl rfl (hb hby dd)
  have hz1 : K.n0 ≤ h1.size := by rw [W1.size]; exact hz
  have N1 := Fr.snoc X1 N ge
  rw [e1] at W1
  exact Run.st st1 (k T1 h1 ⟨_, X1, N1, hz1, eh1⟩ W1 (AI.set A0 W1))
theorem r_lastore {xs : List Int64} {a : Addr} {j : Int32} {x : Int64} (X : Sd K T h cl sl) (cx : Cx K y bytes mx rt R) (hd : Dc bytes pc .lastore 1 pc') (A : AJ K.Z h a xs) (n : Nat) (hj : j = Int32.ofNat n) (hl : n < xs.length) (ge : K.n0 ≤ a) (k : ∀ T' h', Sd K T' h' cl sl → Wr h h' a n (.long x) → AJ K.Z h' a (xs.set n x) → Run K Q T' (mkF K.m pc' L S)) : Run K Q T (mkF K.m pc L (.long x :: .int j :: .ref a :: S)) := by
  obtain ⟨locs, X0, N, hz, eT⟩ := X; obtain ⟨hx, hZ, hby, -, hown, -⟩ := cx; obtain ⟨dd, rfl⟩ := hd
  have A0 := A
  obtain ⟨c, Ar, hc, hlen⟩ := A
  have hs : c.slots.size = xs.length := by have := congrArg List.length hc; simpa using this
  have hn : n < 2 ^ 31 := by simp at hlen; omega
  subst hj
  have e1 := ofNat_clamp hn
  obtain ⟨T1, h1, X1, eh1, W1, st1⟩ := stJ X0 hx hZ eT Ar (j := Int32.ofNat n) (x := x) (by rw [e1, hs]; intro q; rcases q with q | q; exact ofNat_neg hn q; omega) (g := mkF K.m pc L (.long x :: .int (Int32.ofNat n) :: .ref a :: S)) rfl rfl (hb hby dd)
  have hz1 : K.n0 ≤ h1.size := by rw [W1.size]; exact hz
  have N1 := Fr.snoc X1 N ge
  rw [e1] at W1
  exact Run.st st1 (k T1 h1 ⟨_, X1, N1, hz1, eh1⟩ W1 (AJ.set A0 W1))
theorem r_newarray {aty : ArrayType} {a0 : Array Value} {z : Int32} (X : Sd K T h cl sl) (cx : Cx K y bytes mx rt R) (hd : Dc bytes pc (.newarray aty) 2 pc') (w : (Cond.arrayClass (newarray.typeOf aty)).before a0 K.Z = true) (n cap : Nat) (hj : z = Int32.ofNat n) (hcap : n ≤ cap) (hb8 : cap * 8 ≤ 536870912) (hc : cl + 1 ≤ R.cells) (hs : sl + cap ≤ R.slots)
    (k : ∀ T' h' a, a = h.size → K.n0 ≤ a → Sd K T' h' (cl + 1) (sl + cap) → Ext h h' → AV K.Z h' a (newarray.typeOf aty) (List.replicate n (defaultValue (newarray.typeOf aty))) → Run K Q T' (mkF K.m pc' L (.ref a :: S))) : Run K Q T (mkF K.m pc L (.int z :: S)) := by
  obtain ⟨locs, X0, N, hz, eT⟩ := X; obtain ⟨hx, hZ, hby, -, hown, -, -, hR, -⟩ := cx; obtain ⟨dd, rfl⟩ := hd
  have hn : n < 2 ^ 31 := by omega
  subst hj
  have e1 := ofNat_clamp hn
  obtain ⟨T1, h1, cA, X1, eh1, E1, A1, st1⟩ := newP X0 hx hZ w eT (g := mkF K.m pc L (.int (Int32.ofNat n) :: S)) rfl (hb hby dd) (n := Int32.ofNat n) rfl (ofNat_neg hn) (cap := cap) (by rw [e1]; exact hcap) hb8 (by rw [hR]; exact hc) (by rw [hR]; exact hs)
  refine Run.st st1 (k T1 h1 h.size rfl hz ⟨locs, X1, N, Nat.le_trans hz E1.1, eh1⟩ E1 ⟨_, A1, ?_, by simpa using hn⟩)
  simp [newA, e1]
theorem AI.new {ty : FieldType} {Z : State} {h : Heap} {a : Addr} {n : Nat} (A : AV Z h a ty (List.replicate n (.int 0))) : AI ty Z h a (List.replicate n 0) := by
  show AV Z h a ty _
  rw [List.map_replicate]; exact A
theorem AJ.new {Z : State} {h : Heap} {a : Addr} {n : Nat} (A : AV Z h a .long (List.replicate n (.long 0))) : AJ Z h a (List.replicate n 0) := by
  show AV Z h a .long _
  rw [List.map_replicate]; exact A
end Rules
/-! contracts and calls -/
def Con (l : Launch) (Z : State) (y : MethodName) (bytes : ByteArray) (mx : Nat) (rt : Option FieldType) (rm : Room) (as : Array Value) (h0 : Heap) (n0 : Nat) (Q : Option Value → Heap → Prop) : Prop :=
  ∀ ws, MetFree l y (head1 (Jvm.Cond.code y bytes mx rt :: ws) rm) (fun a U => a = as ∧ Z.Warmed39 U.vm ∧ U.heap = h0) (fun _ _ _ _ _ => True) (fun _ U o U' => ∃ v L, o = .returned v ∧ (Q v U'.heap ∧ Fr n0 L) ∧ FrameEnd U o U' L rm.cells rm.slots)
theorem Con.of {l : Launch} {Z : State} {y : MethodName} {bytes : ByteArray} {mx : Nat} {rt : Option FieldType} {rm : Room} {as : Array Value} {h0 : Heap} {n0 : Nat} {Q : Option Value → Heap → Prop} (hy : plainFor y = true) (Z0 : n0 ≤ h0.size)
    (body : ∀ K : KT, K.l = l → K.Z = Z → K.n0 = n0 → Cx K y bytes mx rt rm → ∀ T, Sd K T h0 0 0 → Run K Q T (entryFrame K.m as mx)) : Con l Z y bytes mx rt rm as h0 n0 Q := by
  intro ws
  refine MetFree.of_bodySF hy hisR ?_
  intro p e s m args below meth c s₁ Bd hml0 hP hK
  obtain ⟨rfl, hZ, hh⟩ := hP
  have hown : s.vm.findClass y.cls = some m.cls := findClass_of_methodNamed Bd.named
  have hnm := (name_of_methodNamed Bd.named Bd.method).1
  have X0 : Stand p l e rm s m args below meth c s₁ [] 0 0 := Stand.of_body Bd
  have e0 : s₁.heap = h0 := by rw [← hh, Bd.state]; rfl
  obtain ⟨s₂, v, L, h1, h2, h3, h4, h5, h6⟩ := body (p, l, e, rm, s, m, args, below, meth, c, Z, n0) rfl rfl rfl ⟨Bd.exec, hZ, Bd.bytes, hml0, hown, Bd.returns, Bd.notSynchronized, rfl, hnm⟩ s₁ ⟨[], X0, Fr.nil n0, Z0, e0⟩
  exact ⟨s₂, _, h1, h2, h3, v, L, rfl, ⟨h4, h5⟩, h6⟩
section Calls
variable {K : KT} {Q : Option Value → Heap → Prop} {T : State} {h : Heap} {cl sl : Nat} {y : MethodName} {bytes : ByteArray} {mx : Nat} {rt : Option FieldType} {R : Room} {pc pc' pt : Nat} {L : Array Slot}
theorem r_static {z : MethodName} {zb : ByteArray} {zm : Nat} {zr : Option FieldType} {rm : Room} {i : Nat} {a0 : Array Value} {Qz : Option Value → Heap → Prop} {St : List Value} (argsL rest : List Value) (X : Sd K T h cl sl) (cx : Cx K y bytes mx rt R) (hd : Dc bytes pc (.invokestatic i) 3 pc')
    (w1 : (Cond.methodLink y.cls i z).before a0 K.Z = true) (w2 : (Cond.static z).before a0 K.Z = true) (w3 : (Cond.initialized z.cls).before a0 K.Z = true) (w4 : (Cond.code z zb zm zr).before a0 K.Z = true) (hm : z.cls ≠ "java/lang/invoke/MethodHandle" ∧ z.cls ≠ "java/lang/invoke/VarHandle")
    (con : Con K.l K.Z z zb zm zr rm argsL.toArray h K.n0 Qz) (hpd : ∀ sig, parseMethodDescriptor z.desc = some sig → argsL.length = sig.parameters.length) (hSt : St = argsL.reverse ++ rest) (hsz : L.size = mx) (hf : rm.frames + 1 ≤ R.frames) (hl : (rest.map fun v => v.category).sum + (zm + 11) + rm.locals ≤ R.locals) (hc : cl + rm.cells ≤ R.cells) (hs : sl + rm.slots ≤ R.slots)
    (k : ∀ T' h' v, Sd K T' h' (cl + rm.cells) (sl + rm.slots) → Qz v h' → Run K Q T' (mkF K.m pc' L (v.toList ++ rest))) (hmono : ∀ v h', Qz v h' → h.size ≤ h'.size) : Run K Q T (mkF K.m pc L St) := by
  obtain ⟨locs, X0, N, hz, eT⟩ := X; obtain ⟨hx, hZ, hby, hml, hown, -, -, hR, -⟩ := cx; obtain ⟨dd, rfl⟩ := hd
  obtain ⟨v, _, ⟨T1, L1, k1, n1⟩, -, X1, ⟨Lc, ⟨hQ, hF⟩, l1, y1, z1⟩, st1⟩ := Jvm.LawKit.callS X0 hx (y := z) hown (mvT hZ w1) (mvT hZ w2) (mvT hZ w3) (mvT hZ w4) hm (backOf (W := (rest.map fun v => v.category).sum) (Q := fun v h L => Qz v h ∧ Fr K.n0 L) (con []) hZ w4 w3 (by rw [hR]; exact hf) (by rw [hR]; exact hl)) (g := mkF K.m pc L St) rfl (by rw [hml]; exact hsz) (argsL := argsL) (rest := rest) hpd hSt (by show 2 * 0 + _ ≤ _; omega) (hb hby dd) (fun _ _ => ⟨rfl, eT, by rw [hR]; exact hc, by rw [hR]; exact hs⟩)
  dsimp only [Pt.U, Pt.locs, Pt.cells, Pt.slots] at X1 l1 y1 z1 st1 hQ
  subst l1 y1 z1
  exact Run.st st1 (k T1 _ v ⟨_, X1, Fr.app N hF, Nat.le_trans hz (hmono _ _ hQ), rfl⟩ hQ)
theorem r_virtual {z : MethodName} {C : String} {zb : ByteArray} {zm : Nat} {zr : Option FieldType} {rm : Room} {i : Nat} {a : Addr} {a0 : Array Value} {Qz : Option Value → Heap → Prop} {St : List Value} (argsL rest : List Value) (X : Sd K T h cl sl) (cx : Cx K y bytes mx rt R) (hd : Dc bytes pc (.invokevirtual i) 3 pc') (E : Exa K.Z h a C)
    (w1 : (Cond.methodLink y.cls i z).before a0 K.Z = true) (w2 : (Cond.declares z).before a0 K.Z = true) (w3 : (Cond.selects C z z).before a0 K.Z = true) (w4 : (Cond.instanceMethod z).before a0 K.Z = true) (w5 : (Cond.initialized z.cls).before a0 K.Z = true) (w6 : (Cond.code z zb zm zr).before a0 K.Z = true) (hm : z.cls ≠ "java/lang/invoke/MethodHandle" ∧ z.cls ≠ "java/lang/invoke/VarHandle")
    (con : Con K.l K.Z z zb zm zr rm (.ref a :: argsL).toArray h K.n0 Qz) (hpd : ∀ sig, parseMethodDescriptor z.desc = some sig → argsL.length = sig.parameters.length) (hSt : St = argsL.reverse ++ .ref a :: rest) (hsz : L.size = mx) (hf : rm.frames + 1 ≤ R.frames) (hl : (rest.map fun v => v.category).sum + (zm + 11) + rm.locals ≤ R.locals) (hc : cl + rm.cells ≤ R.cells) (hs : sl + rm.slots ≤ R.slots)
    (k : ∀ T' h' v, Sd K T' h' (cl + rm.cells) (sl + rm.slots) → Qz v h' → Run K Q T' (mkF K.m pc' L (v.toList ++ rest))) (hmono : ∀ v h', Qz v h' → h.size ≤ h'.size) : Run K Q T (mkF K.m pc L St) := by
  obtain ⟨locs, X0, N, hz, eT⟩ := X; obtain ⟨hx, hZ, hby, hml, hown, -, -, hR, -⟩ := cx; obtain ⟨dd, rfl⟩ := hd
  obtain ⟨cq, kq, qa, qb, qc⟩ := isOf hZ eT E
  obtain ⟨v, _, ⟨T1, L1, k1, n1⟩, -, X1, ⟨Lc, ⟨hQ, hF⟩, l1, y1, z1⟩, st1⟩ := X0.virtualBack hx (y := z) (z := z) hown (mvT hZ w1) (mvT hZ w2) (notFace_of_selects (args := #[]) (mvT hZ w3)) (mvT hZ w3) (mvT hZ w4) hm (backOf (W := (rest.map fun v => v.category).sum) (Q := fun v h L => Qz v h ∧ Fr K.n0 L) (con []) hZ w6 w5 (by rw [hR]; exact hf) (by rw [hR]; exact hl)) qa qc (g := mkF K.m pc L St) rfl (by rw [hml]; exact hsz) (Steps.refl _) (argsL := argsL) (rest := rest) hpd hSt (by show 2 * 0 + _ ≤ _; omega) (hb hby dd) (fun _ _ => ⟨rfl, eT, by rw [hR]; exact hc, by rw [hR]; exact hs⟩)
  dsimp only [Pt.U, Pt.locs, Pt.cells, Pt.slots] at X1 l1 y1 z1 st1 hQ
  subst l1 y1 z1
  exact Run.st (fun t q => st1.trans q) (k T1 _ v ⟨_, X1, Fr.app N hF, Nat.le_trans hz (hmono _ _ hQ), rfl⟩ hQ)
theorem r_private {z z' : MethodName} {C C' : String} {zb : ByteArray} {zm : Nat} {zr : Option FieldType} {rm : Room} {i : Nat} {a : Addr} {a0 : Array Value} {Qz : Option Value → Heap → Prop} {St : List Value} (argsL rest : List Value) (X : Sd K T h cl sl) (cx : Cx K y bytes mx rt R) (hd : Dc bytes pc (.invokevirtual i) 3 pc') (E : Exa K.Z h a C)
    (w1 : (Cond.methodLink y.cls i z).before a0 K.Z = true) (w2 : (Cond.selects C' z' z').before a0 K.Z = true) (w3 : (Cond.instanceMethod z).before a0 K.Z = true) (w4 : (Cond.privateMethod z).before a0 K.Z = true) (w5 : (Cond.initialized z.cls).before a0 K.Z = true) (w6 : (Cond.code z zb zm zr).before a0 K.Z = true) (hzz : z'.cls = z.cls) (hm : z.cls ≠ "java/lang/invoke/MethodHandle" ∧ z.cls ≠ "java/lang/invoke/VarHandle")
    (con : Con K.l K.Z z zb zm zr rm (.ref a :: argsL).toArray h K.n0 Qz) (hpd : ∀ sig, parseMethodDescriptor z.desc = some sig → argsL.length = sig.parameters.length) (hSt : St = argsL.reverse ++ .ref a :: rest) (hsz : L.size = mx) (hf : rm.frames + 1 ≤ R.frames) (hl : (rest.map fun v => v.category).sum + (zm + 11) + rm.locals ≤ R.locals) (hc : cl + rm.cells ≤ R.cells) (hs : sl + rm.slots ≤ R.slots)
    (k : ∀ T' h' v, Sd K T' h' (cl + rm.cells) (sl + rm.slots) → Qz v h' → Run K Q T' (mkF K.m pc' L (v.toList ++ rest))) (hmono : ∀ v h', Qz v h' → h.size ≤ h'.size) : Run K Q T (mkF K.m pc L St) := by
  obtain ⟨locs, X0, N, hz, eT⟩ := X; obtain ⟨hx, hZ, hby, hml, hown, -, -, hR, -⟩ := cx; obtain ⟨dd, rfl⟩ := hd
  obtain ⟨cq, qa, qb⟩ := E.cell
  have u2 : (Cond.selects C' z' z').before K.args K.s = true := mvT hZ w2
  have u3 : (Cond.instanceMethod z).before K.args K.s = true := mvT hZ w3
  obtain ⟨c2, r2, m2, q1, q2, q3, q4, kP, hkP, hkPi⟩ := Cond.selects_spec u2
  have hc2 := findClass_of_methodNamed q3
  rw [hzz] at hc2
  have hpriv := Cond.privateMethod_at (mvP hZ w4 (args := K.args))
  have hsel := selects_self_of_private hc2 hkP hkPi hpriv u3 hm
  obtain ⟨v, _, ⟨T1, L1, k1, n1⟩, -, X1, ⟨Lc, ⟨hQ, hF⟩, l1, y1, z1⟩, st1⟩ := X0.privateBack hx (y := z) hown (mvT hZ w1) u3 hsel hpriv (mvT hZ w6) hm (backOf (W := (rest.map fun v => v.category).sum) (Q := fun v h L => Qz v h ∧ Fr K.n0 L) (con []) hZ w6 w5 (by rw [hR]; exact hf) (by rw [hR]; exact hl)) (g := mkF K.m pc L St) rfl (by rw [hml]; exact hsz) (Steps.refl _) (a := a) (by rw [eT]; exact qa) qb (argsL := argsL) (rest := rest) hpd hSt (by show 2 * 0 + _ ≤ _; omega) (hb hby dd) (fun _ _ => ⟨rfl, eT, by rw [hR]; exact hc, by rw [hR]; exact hs⟩)
  dsimp only [Pt.U, Pt.locs, Pt.cells, Pt.slots] at X1 l1 y1 z1 st1 hQ
  subst l1 y1 z1
  exact Run.st (fun t q => st1.trans q) (k T1 _ v ⟨_, X1, Fr.app N hF, Nat.le_trans hz (hmono _ _ hQ), rfl⟩ hQ)
theorem r_special {z : MethodName} {zb : ByteArray} {zm : Nat} {rm : Room} {i : Nat} {a : Addr} {a0 : Array Value} {Qz : Option Value → Heap → Prop} {St : List Value} (argsL rest : List Value) (X : Sd K T h cl sl) (cx : Cx K y bytes mx rt R) (hd : Dc bytes pc (.invokespecial i) 3 pc') (hzn : z.name = "<init>")
    (w1 : (Cond.methodLink y.cls i z).before a0 K.Z = true) (w2 : (Cond.instanceMethod z).before a0 K.Z = true) (w3 : (Cond.initialized z.cls).before a0 K.Z = true) (w4 : (Cond.code z zb zm none).before a0 K.Z = true) (hm : z.cls ≠ "java/lang/invoke/MethodHandle" ∧ z.cls ≠ "java/lang/invoke/VarHandle")
    (con : Con K.l K.Z z zb zm none rm (.ref a :: argsL).toArray h K.n0 Qz) (hpd : ∀ sig, parseMethodDescriptor z.desc = some sig → argsL.length = sig.parameters.length) (hSt : St = argsL.reverse ++ .ref a :: rest) (hsz : L.size = mx) (hf : rm.frames + 1 ≤ R.frames) (hl : (rest.map fun v => v.category).sum + (zm + 11) + rm.locals ≤ R.locals) (hc : cl + rm.cells ≤ R.cells) (hs : sl + rm.slots ≤ R.slots)
    (k : ∀ T' h' v, Sd K T' h' (cl + rm.cells) (sl + rm.slots) → Qz v h' → Run K Q T' (mkF K.m pc' L (v.toList ++ rest))) (hmono : ∀ v h', Qz v h' → h.size ≤ h'.size) : Run K Q T (mkF K.m pc L St) := by
  obtain ⟨locs, X0, N, hz, eT⟩ := X; obtain ⟨hx, hZ, hby, hml, hown, -, -, hR, -⟩ := cx; obtain ⟨dd, rfl⟩ := hd
  obtain ⟨v, _, ⟨T1, L1, k1, n1⟩, -, X1, ⟨Lc, ⟨hQ, hF⟩, l1, y1, z1⟩, st1⟩ := X0.specialBack hx (y := z) hzn hown (mvT hZ w1) (mvT hZ w2) (mvT hZ w4) hm (backOf (W := (rest.map fun v => v.category).sum) (Q := fun v h L => Qz v h ∧ Fr K.n0 L) (con []) hZ w4 w3 (by rw [hR]; exact hf) (by rw [hR]; exact hl)) (g := mkF K.m pc L St) rfl (by rw [hml]; exact hsz) (Steps.refl _) (a := a) (argsL := argsL) (rest := rest) hpd hSt (by show 2 * 0 + _ ≤ _; omega) (hb hby dd) (fun _ _ => ⟨rfl, eT, by rw [hR]; exact hc, by rw [hR]; exact hs⟩)
  dsimp only [Pt.U, Pt.locs, Pt.cells, Pt.slots] at X1 l1 y1 z1 st1 hQ
  subst l1 y1 z1
  exact Run.st (fun t q => st1.trans q) (k T1 _ v ⟨_, X1, Fr.app N hF, Nat.le_trans hz (hmono _ _ hQ), rfl⟩ hQ)
end Calls
end Jvm.Own
namespace Jvm.Pilot.@@N@@
open Jvm Jvm.ClassFile Sem Op Lib Jvm.Free Jvm.Stand Jvm.LawKit Jvm.RoadKit Bundle Jvm.Own Jvm.Pilot.@@N@@.Jvm.D
theorem pd_0 : parseMethodDescriptor "(JJ)J" = some ⟨[.long, .long], some (.long)⟩ := by decide +kernel
theorem pd_1 : parseMethodDescriptor "(JII)J" = some ⟨[.long, .int, .int], some (.long)⟩ := by decide +kernel
theorem pd_2 : parseMethodDescriptor "(ZJI)I" = some ⟨[.boolean, .long, .int], some (.int)⟩ := by decide +kernel
theorem pd_3 : parseMethodDescriptor "([II)I" = some ⟨[.array .int, .int], some (.int)⟩ := by decide +kernel
def own_min (a b : Int64) : Int64 := if b < a then b else a
def own_max (a b : Int64) : Int64 := if a < b then b else a
def own_next (e : Int64) (d i : Int32) : Int64 := own_min 2147483647 (e + Int32.toInt64 (XT.ushr d (2 * i) &&& 3))
def own_below (p : Int32) (e : Int64) (v : Int32) : Int32 := if ¬ p = 0 ∧ e < Int32.toInt64 v then 1 else 0
def own_cnt (xs : List Int32) (v : Int32) : Nat := xs.countP (fun x => decide (x < v))
theorem own_cnt_eq (xs : List Int32) (v : Int32) (k : Nat) (hk : k ≤ xs.length) (h1 : ∀ j x, j < k → xs[j]? = some x → x < v) (h2 : ∀ j x, k ≤ j → xs[j]? = some x → ¬ x < v) : own_cnt xs v = k := by
  unfold own_cnt
  rw [← List.take_append_drop k xs, List.countP_append]
  have e1 : (xs.take k).countP (fun x => decide (x < v)) = k := by
    rw [List.countP_eq_length.mpr, List.length_take]
    · omega
    · intro a ha
      obtain ⟨j, hj⟩ := List.getElem?_of_mem ha
      rw [List.getElem?_take] at hj
      split at hj
      · exact decide_eq_true (h1 j a (by assumption) hj)
      · cases hj
  have e2 : (xs.drop k).countP (fun x => decide (x < v)) = 0 := by
    rw [List.countP_eq_zero]
    intro a ha
    obtain ⟨j, hj⟩ := List.getElem?_of_mem ha
    rw [List.getElem?_drop] at hj
    simpa using h2 (k + j) a (by omega) hj
  omega
theorem own_mid {a b : Nat} (ha : a < 2 ^ 30) (hb : b < 2 ^ 30) : XT.ushr (Int32.ofNat a + Int32.ofNat b) 1 = Int32.ofNat ((a + b) / 2) := by
  rw [← Int32.ofNat_add]
  apply Int32.toBitVec_inj.mp
  show ((Int32.ofNat (a + b)).toUInt32 >>> ((1 : Int32) &&& 31).toUInt32).toBitVec = BitVec.ofNat 32 _
  rw [UInt32.toBitVec_shiftRight]
  apply BitVec.eq_of_toNat_eq
  have e : (Int32.ofNat (a + b)).toUInt32.toBitVec.toNat = a + b := by
    show (BitVec.ofNat 32 (a + b)).toNat = _
    rw [BitVec.toNat_ofNat]; omega
  rw [BitVec.ushiftRight_eq', BitVec.toNat_ushiftRight, e, BitVec.toNat_ofNat]
  show (a + b) >>> 1 = _
  rw [Nat.shiftRight_eq_div_pow]; omega
theorem own_ltn {a b : Nat} (ha : a < 2 ^ 31) (hb : b < 2 ^ 31) : Int32.ofNat a < Int32.ofNat b ↔ a < b := by
  rw [Int32.lt_iff_toInt_lt, Int32.toInt_ofNat_of_lt ha, Int32.toInt_ofNat_of_lt hb]; omega
theorem J29m70_0 : Dc jdk_29_method_70_code 0 (.lload_n 0) 1 1 := ⟨(by decide +kernel), rfl⟩
theorem J29m70_1 : Dc jdk_29_method_70_code 1 (.lload_n 2) 1 2 := ⟨(by decide +kernel), rfl⟩
theorem J29m70_2 : Dc jdk_29_method_70_code 2 (.lcmp) 1 3 := ⟨(by decide +kernel), rfl⟩
theorem J29m70_3 : Db jdk_29_method_70_code 3 (.ifCond .gt 7) (7) 6 10 := ⟨(by decide +kernel), rfl, by decide, by decide⟩
theorem J29m70_6 : Dc jdk_29_method_70_code 6 (.lload_n 0) 1 7 := ⟨(by decide +kernel), rfl⟩
theorem J29m70_7 : Db jdk_29_method_70_code 7 (.goto 4) (4) 10 11 := ⟨(by decide +kernel), rfl, by decide, by decide⟩
theorem J29m70_10 : Dc jdk_29_method_70_code 10 (.lload_n 2) 1 11 := ⟨(by decide +kernel), rfl⟩
theorem J29m70_11 : Dc jdk_29_method_70_code 11 (.lreturn) 1 12 := ⟨(by decide +kernel), rfl⟩
theorem ef_J29m70 (m : MethodId) (a : Int64) (b : Int64) : entryFrame m #[(.long a), (.long b)] 4 = mkF m 0 #[.val (.long a), .second, .val (.long b), .second] [] := by first | (simp [entryFrame, mkF, argsToLocals, Value.category]; done) | rfl
set_option maxRecDepth 65536 in
set_option maxHeartbeats 40000000 in
theorem con_J29m70 (l : Launch) (Z : State) (a0 : Array Value) (hw : Tb tables_1 a0 Z) (a : Int64) (b : Int64) (h0 : Heap) (n0 : Nat) (Z0 : n0 ≤ h0.size)  :
    Con l Z (⟨"java/lang/Math", "min", "(JJ)J"⟩ : MethodName) jdk_29_method_70_code 4 (some (.long)) ({ frames := 0, cells := 0, slots := 0, locals := 0 } : Room) #[(.long a), (.long b)] h0 n0 (fun v h => h0 = h ∧ v = some (.long (own_min a b))) := by
  refine Con.of (by decide +kernel) Z0 ?_
  intro K hl hZ hn cx T0 X0
  subst hl hZ hn
  refine Run.cast (ef_J29m70 K.m a b) ?_
  refine r_lloadN X0 cx J29m70_0 rfl ?_
  refine r_lloadN X0 cx J29m70_1 rfl ?_
  refine r_lcmp X0 cx J29m70_2 ?_
  refine r_lcmpgt X0 cx J29m70_3 (fun c3 => ?_) (fun c3 => ?_)
  · refine r_lloadN X0 cx J29m70_10 rfl ?_
    refine r_lreturn X0 cx J29m70_11 (by decide) (by decide) ?_
    exact ⟨rfl, by simp [own_min, c3]⟩
  · refine r_lloadN X0 cx J29m70_6 rfl ?_
    refine r_goto X0 cx J29m70_7 ?_
    refine r_lreturn X0 cx J29m70_11 (by decide) (by decide) ?_
    exact ⟨rfl, by simp [own_min, c3]⟩
theorem J29m66_0 : Dc jdk_29_method_66_code 0 (.lload_n 0) 1 1 := ⟨(by decide +kernel), rfl⟩
theorem J29m66_1 : Dc jdk_29_method_66_code 1 (.lload_n 2) 1 2 := ⟨(by decide +kernel), rfl⟩
theorem J29m66_2 : Dc jdk_29_method_66_code 2 (.lcmp) 1 3 := ⟨(by decide +kernel), rfl⟩
theorem J29m66_3 : Db jdk_29_method_66_code 3 (.ifCond .lt 7) (7) 6 10 := ⟨(by decide +kernel), rfl, by decide, by decide⟩
theorem J29m66_6 : Dc jdk_29_method_66_code 6 (.lload_n 0) 1 7 := ⟨(by decide +kernel), rfl⟩
theorem J29m66_7 : Db jdk_29_method_66_code 7 (.goto 4) (4) 10 11 := ⟨(by decide +kernel), rfl, by decide, by decide⟩
theorem J29m66_10 : Dc jdk_29_method_66_code 10 (.lload_n 2) 1 11 := ⟨(by decide +kernel), rfl⟩
theorem J29m66_11 : Dc jdk_29_method_66_code 11 (.lreturn) 1 12 := ⟨(by decide +kernel), rfl⟩
theorem ef_J29m66 (m : MethodId) (a : Int64) (b : Int64) : entryFrame m #[(.long a), (.long b)] 4 = mkF m 0 #[.val (.long a), .second, .val (.long b), .second] [] := by first | (simp [entryFrame, mkF, argsToLocals, Value.category]; done) | rfl
set_option maxRecDepth 65536 in
set_option maxHeartbeats 40000000 in
theorem con_J29m66 (l : Launch) (Z : State) (a0 : Array Value) (hw : Tb tables_1 a0 Z) (a : Int64) (b : Int64) (h0 : Heap) (n0 : Nat) (Z0 : n0 ≤ h0.size)  :
    Con l Z (⟨"java/lang/Math", "max", "(JJ)J"⟩ : MethodName) jdk_29_method_66_code 4 (some (.long)) ({ frames := 0, cells := 0, slots := 0, locals := 0 } : Room) #[(.long a), (.long b)] h0 n0 (fun v h => h0 = h ∧ v = some (.long (own_max a b))) := by
  refine Con.of (by decide +kernel) Z0 ?_
  intro K hl hZ hn cx T0 X0
  subst hl hZ hn
  refine Run.cast (ef_J29m66 K.m a b) ?_
  refine r_lloadN X0 cx J29m66_0 rfl ?_
  refine r_lloadN X0 cx J29m66_1 rfl ?_
  refine r_lcmp X0 cx J29m66_2 ?_
  refine r_lcmplt X0 cx J29m66_3 (fun c3 => ?_) (fun c3 => ?_)
  · refine r_lloadN X0 cx J29m66_10 rfl ?_
    refine r_lreturn X0 cx J29m66_11 (by decide) (by decide) ?_
    exact ⟨rfl, by simp [own_max, c3]⟩
  · refine r_lloadN X0 cx J29m66_6 rfl ?_
    refine r_goto X0 cx J29m66_7 ?_
    refine r_lreturn X0 cx J29m66_11 (by decide) (by decide) ?_
    exact ⟨rfl, by simp [own_max, c3]⟩
theorem H3_0 : Dc method_3_code 0 (.ldc2_w 17) 3 3 := ⟨(by decide +kernel), rfl⟩
theorem H3_3 : Dc method_3_code 3 (.lload_n 0) 1 4 := ⟨(by decide +kernel), rfl⟩
theorem H3_4 : Dc method_3_code 4 (.iload_n 2) 1 5 := ⟨(by decide +kernel), rfl⟩
theorem H3_5 : Dc method_3_code 5 (.iconst 2) 1 6 := ⟨(by decide +kernel), rfl⟩
theorem H3_6 : Dc method_3_code 6 (.iload_n 3) 1 7 := ⟨(by decide +kernel), rfl⟩
theorem H3_7 : Dc method_3_code 7 (.imul) 1 8 := ⟨(by decide +kernel), rfl⟩
theorem H3_8 : Dc method_3_code 8 (.iushr) 1 9 := ⟨(by decide +kernel), rfl⟩
theorem H3_9 : Dc method_3_code 9 (.iconst 3) 1 10 := ⟨(by decide +kernel), rfl⟩
theorem H3_10 : Dc method_3_code 10 (.iand) 1 11 := ⟨(by decide +kernel), rfl⟩
theorem H3_11 : Dc method_3_code 11 (.i2l) 1 12 := ⟨(by decide +kernel), rfl⟩
theorem H3_12 : Dc method_3_code 12 (.ladd) 1 13 := ⟨(by decide +kernel), rfl⟩
theorem H3_13 : Dc method_3_code 13 (.invokestatic 19) 3 16 := ⟨(by decide +kernel), rfl⟩
theorem H3_16 : Dc method_3_code 16 (.lreturn) 1 17 := ⟨(by decide +kernel), rfl⟩
theorem ef_H3 (m : MethodId) (e : Int64) (d : Int32) (i : Int32) : entryFrame m #[(.long e), (.int d), (.int i)] 4 = mkF m 0 #[.val (.long e), .second, .val (.int d), .val (.int i)] [] := by first | (simp [entryFrame, mkF, argsToLocals, Value.category]; done) | rfl
set_option maxRecDepth 65536 in
set_option maxHeartbeats 40000000 in
theorem con_H3 (l : Launch) (Z : State) (a0 : Array Value) (hw : Tb tables_1 a0 Z) (e : Int64) (d : Int32) (i : Int32) (h0 : Heap) (n0 : Nat) (Z0 : n0 ≤ h0.size)  :
    Con l Z (⟨"com/example/dipper/dipper/correct/SortedIntsFirstFromPinLaw", "next", "(JII)J"⟩ : MethodName) method_3_code 4 (some (.long)) ({ frames := 1, cells := 0, slots := 0, locals := 15 } : Room) #[(.long e), (.int d), (.int i)] h0 n0 (fun v h => h0 = h ∧ v = some (.long (own_next e d i))) := by
  refine Con.of (plainFor_of_name (by decide +kernel)) Z0 ?_
  intro K hl hZ hn cx T0 X0
  subst hl hZ hn
  refine Run.cast (ef_H3 K.m e d i) ?_
  refine r_ldc2 X0 cx H3_0 (hw.get 4 rfl) ?_
  refine r_lloadN X0 cx H3_3 rfl ?_
  refine r_iloadN X0 cx H3_4 rfl ?_
  refine r_iconst (2) X0 cx H3_5 rfl ?_
  refine r_iloadN X0 cx H3_6 rfl ?_
  refine r_imul X0 cx H3_7 ?_
  refine r_iushr X0 cx H3_8 ?_
  refine r_iconst (3) X0 cx H3_9 rfl ?_
  refine r_iand X0 cx H3_10 ?_
  refine r_i2l X0 cx H3_11 ?_
  refine r_ladd X0 cx H3_12 ?_
  refine r_static [(.long (2147483647 : Int64)), (.long (e + (Int32.toInt64 ((XT.ushr d ((2 : Int32) * i)) &&& (3 : Int32)))))] [] X0 cx H3_13 (hw.get 5 rfl) (hw.get 6 rfl) (hw.get 7 rfl) (hw.get 8 rfl) (by decide) (con_J29m70 K.l K.Z a0 hw (2147483647 : Int64) (e + (Int32.toInt64 ((XT.ushr d ((2 : Int32) * i)) &&& (3 : Int32)))) h0 K.n0 X0.ge) (lenOf pd_0 rfl) rfl rfl (by decide) (leb rfl) (by decide) (by decide) (fun T1 h1 v1 X1 q1 => ?_) (fun _ _ q => Nat.le_of_eq (congrArg Array.size q.1))
  obtain ⟨rfl, rfl⟩ := q1
  refine r_lreturn X1 cx H3_16 (by decide) (by decide) ?_
  exact ⟨rfl, rfl⟩
theorem H4_0 : Dc method_4_code 0 (.iload_n 0) 1 1 := ⟨(by decide +kernel), rfl⟩
theorem H4_1 : Db method_4_code 1 (.ifCond .eq 12) (12) 4 13 := ⟨(by decide +kernel), rfl, by decide, by decide⟩
theorem H4_4 : Dc method_4_code 4 (.lload_n 1) 1 5 := ⟨(by decide +kernel), rfl⟩
theorem H4_5 : Dc method_4_code 5 (.iload_n 3) 1 6 := ⟨(by decide +kernel), rfl⟩
theorem H4_6 : Dc method_4_code 6 (.i2l) 1 7 := ⟨(by decide +kernel), rfl⟩
theorem H4_7 : Dc method_4_code 7 (.lcmp) 1 8 := ⟨(by decide +kernel), rfl⟩
theorem H4_8 : Db method_4_code 8 (.ifCond .ge 5) (5) 11 13 := ⟨(by decide +kernel), rfl, by decide, by decide⟩
theorem H4_11 : Dc method_4_code 11 (.iconst 1) 1 12 := ⟨(by decide +kernel), rfl⟩
theorem H4_12 : Dc method_4_code 12 (.ireturn) 1 13 := ⟨(by decide +kernel), rfl⟩
theorem H4_13 : Dc method_4_code 13 (.iconst 0) 1 14 := ⟨(by decide +kernel), rfl⟩
theorem H4_14 : Dc method_4_code 14 (.ireturn) 1 15 := ⟨(by decide +kernel), rfl⟩
theorem ef_H4 (m : MethodId) (p : Int32) (e : Int64) (v : Int32) : entryFrame m #[(.int p), (.long e), (.int v)] 4 = mkF m 0 #[.val (.int p), .val (.long e), .second, .val (.int v)] [] := by first | (simp [entryFrame, mkF, argsToLocals, Value.category]; done) | rfl
set_option maxRecDepth 65536 in
set_option maxHeartbeats 40000000 in
theorem con_H4 (l : Launch) (Z : State) (a0 : Array Value) (hw : Tb tables_1 a0 Z) (p : Int32) (e : Int64) (v : Int32) (h0 : Heap) (n0 : Nat) (Z0 : n0 ≤ h0.size)  :
    Con l Z (⟨"com/example/dipper/dipper/correct/SortedIntsFirstFromPinLaw", "below", "(ZJI)I"⟩ : MethodName) method_4_code 4 (some (.int)) ({ frames := 0, cells := 0, slots := 0, locals := 0 } : Room) #[(.int p), (.long e), (.int v)] h0 n0 (fun r h => h0 = h ∧ r = some (.int (own_below p e v))) := by
  refine Con.of (plainFor_of_name (by decide +kernel)) Z0 ?_
  intro K hl hZ hn cx T0 X0
  subst hl hZ hn
  refine Run.cast (ef_H4 K.m p e v) ?_
  refine r_iloadN X0 cx H4_0 rfl ?_
  refine r_ifeq X0 cx H4_1 (fun c1 => ?_) (fun c1 => ?_)
  · refine r_iconst (0) X0 cx H4_13 rfl ?_
    refine r_ireturn X0 cx H4_14 (by decide) (by decide) ?_
    exact ⟨rfl, by simp_all [own_below]⟩
  · refine r_lloadN X0 cx H4_4 rfl ?_
    refine r_iloadN X0 cx H4_5 rfl ?_
    refine r_i2l X0 cx H4_6 ?_
    refine r_lcmp X0 cx H4_7 ?_
    refine r_lcmpge X0 cx H4_8 (fun c8 => ?_) (fun c8 => ?_)
    · refine r_iconst (0) X0 cx H4_13 rfl ?_
      refine r_ireturn X0 cx H4_14 (by decide) (by decide) ?_
      exact ⟨rfl, by simp_all [own_below]⟩
    · refine r_iconst (1) X0 cx H4_11 rfl ?_
      refine r_ireturn X0 cx H4_12 (by decide) (by decide) ?_
      exact ⟨rfl, by simp_all [own_below]⟩
theorem P19m2_0 : Dc prog_19_method_2_code 0 (.iconst 0) 1 1 := ⟨(by decide +kernel), rfl⟩
theorem P19m2_1 : Dc prog_19_method_2_code 1 (.istore_n 2) 1 2 := ⟨(by decide +kernel), rfl⟩
theorem P19m2_2 : Dc prog_19_method_2_code 2 (.aload_n 0) 1 3 := ⟨(by decide +kernel), rfl⟩
theorem P19m2_3 : Dc prog_19_method_2_code 3 (.arraylength) 1 4 := ⟨(by decide +kernel), rfl⟩
theorem P19m2_4 : Dc prog_19_method_2_code 4 (.istore_n 3) 1 5 := ⟨(by decide +kernel), rfl⟩
theorem P19m2_5 : Dc prog_19_method_2_code 5 (.iload_n 2) 1 6 := ⟨(by decide +kernel), rfl⟩
theorem P19m2_6 : Dc prog_19_method_2_code 6 (.iload_n 3) 1 7 := ⟨(by decide +kernel), rfl⟩
theorem P19m2_7 : Db prog_19_method_2_code 7 (.if_icmp .ge 32) (32) 10 39 := ⟨(by decide +kernel), rfl, by decide, by decide⟩
theorem P19m2_10 : Dc prog_19_method_2_code 10 (.iload_n 2) 1 11 := ⟨(by decide +kernel), rfl⟩
theorem P19m2_11 : Dc prog_19_method_2_code 11 (.iload_n 3) 1 12 := ⟨(by decide +kernel), rfl⟩
theorem P19m2_12 : Dc prog_19_method_2_code 12 (.iadd) 1 13 := ⟨(by decide +kernel), rfl⟩
theorem P19m2_13 : Dc prog_19_method_2_code 13 (.iconst 1) 1 14 := ⟨(by decide +kernel), rfl⟩
theorem P19m2_14 : Dc prog_19_method_2_code 14 (.iushr) 1 15 := ⟨(by decide +kernel), rfl⟩
theorem P19m2_15 : Dc prog_19_method_2_code 15 (.istore 4) 2 17 := ⟨(by decide +kernel), rfl⟩
theorem P19m2_17 : Dc prog_19_method_2_code 17 (.aload_n 0) 1 18 := ⟨(by decide +kernel), rfl⟩
theorem P19m2_18 : Dc prog_19_method_2_code 18 (.iload 4) 2 20 := ⟨(by decide +kernel), rfl⟩
theorem P19m2_20 : Dc prog_19_method_2_code 20 (.iaload) 1 21 := ⟨(by decide +kernel), rfl⟩
theorem P19m2_21 : Dc prog_19_method_2_code 21 (.iload_n 1) 1 22 := ⟨(by decide +kernel), rfl⟩
theorem P19m2_22 : Db prog_19_method_2_code 22 (.if_icmp .ge 11) (11) 25 33 := ⟨(by decide +kernel), rfl, by decide, by decide⟩
theorem P19m2_25 : Dc prog_19_method_2_code 25 (.iload 4) 2 27 := ⟨(by decide +kernel), rfl⟩
theorem P19m2_27 : Dc prog_19_method_2_code 27 (.iconst 1) 1 28 := ⟨(by decide +kernel), rfl⟩
theorem P19m2_28 : Dc prog_19_method_2_code 28 (.iadd) 1 29 := ⟨(by decide +kernel), rfl⟩
theorem P19m2_29 : Dc prog_19_method_2_code 29 (.istore_n 2) 1 30 := ⟨(by decide +kernel), rfl⟩
theorem P19m2_30 : Db prog_19_method_2_code 30 (.goto 6) (6) 33 36 := ⟨(by decide +kernel), rfl, by decide, by decide⟩
theorem P19m2_33 : Dc prog_19_method_2_code 33 (.iload 4) 2 35 := ⟨(by decide +kernel), rfl⟩
theorem P19m2_35 : Dc prog_19_method_2_code 35 (.istore_n 3) 1 36 := ⟨(by decide +kernel), rfl⟩
theorem P19m2_36 : Db prog_19_method_2_code 36 (.goto (-31)) (-31) 39 5 := ⟨(by decide +kernel), rfl, by decide, by decide⟩
theorem P19m2_39 : Dc prog_19_method_2_code 39 (.iload_n 2) 1 40 := ⟨(by decide +kernel), rfl⟩
theorem P19m2_40 : Dc prog_19_method_2_code 40 (.ireturn) 1 41 := ⟨(by decide +kernel), rfl⟩
set_option maxRecDepth 65536 in
set_option maxHeartbeats 40000000 in
theorem own_loop {K : KT} (cx : Cx K (⟨"com/example/dipper/dipper/correct/SortedInts", "firstFrom", "([II)I"⟩ : MethodName) prog_19_method_2_code 5 (some .int) ({ frames := 0, cells := 0, slots := 0, locals := 0 } : Room)) (r : Addr) (v : Int32) (h0 : Heap) (xs : List Int32) (A_r : AI .int K.Z h0 r xs) (hn : xs.length < 2 ^ 30)
    (hs : ∀ (i j : Nat) (x y : Int32), i ≤ j → xs[i]? = some x → xs[j]? = some y → ¬ y < x) :
    ∀ (m lo hi : Nat) (s4 : Slot) (T0 : State), hi - lo ≤ m → lo ≤ hi → hi ≤ xs.length → (∀ j x, j < lo → xs[j]? = some x → x < v) → (∀ j x, hi ≤ j → xs[j]? = some x → ¬ x < v) →
      (∀ (z : Int32) , storeLocals #[.val (.ref r), .val (.int v), .val (.int (Int32.ofNat lo)), .val (.int (Int32.ofNat hi)), s4] 4 (.int z) = some #[.val (.ref r), .val (.int v), .val (.int (Int32.ofNat lo)), .val (.int (Int32.ofNat hi)), .val (.int z)]) →
      Sd K T0 h0 0 0 → Run K (fun r h => h0 = h ∧ r = some (.int (Int32.ofNat (own_cnt xs v)))) T0 (mkF K.m 5 #[.val (.ref r), .val (.int v), .val (.int (Int32.ofNat lo)), .val (.int (Int32.ofNat hi)), s4] []) := by
  intro m
  induction m with
  | zero =>
    intro lo hi s4 T0 hm hle hh hlo hhi hst X0
    have hc : ¬ Int32.ofNat lo < Int32.ofNat hi := by rw [own_ltn (by omega) (by omega)]; omega
    refine r_iloadN X0 cx P19m2_5 rfl ?_
    refine r_iloadN X0 cx P19m2_6 rfl ?_
    refine r_icmpge X0 cx P19m2_7 (fun c7 => ?_) (fun c7 => ?_)
    · refine r_iloadN X0 cx P19m2_39 rfl ?_
      refine r_ireturn X0 cx P19m2_40 (by decide) (by decide) ?_
      refine ⟨rfl, ?_⟩
      rw [own_ltn (by omega) (by omega)] at c7
      rw [own_cnt_eq xs v lo (by omega) hlo (fun j x hj => hhi j x (by omega))]
    · exact absurd c7 hc
  | succ m ih =>
    intro lo hi s4 T0 hm hle hh hlo hhi hst X0
    refine r_iloadN X0 cx P19m2_5 rfl ?_
    refine r_iloadN X0 cx P19m2_6 rfl ?_
    refine r_icmpge X0 cx P19m2_7 (fun c7 => ?_) (fun c7 => ?_)
    · refine r_iloadN X0 cx P19m2_39 rfl ?_
      refine r_ireturn X0 cx P19m2_40 (by decide) (by decide) ?_
      refine ⟨rfl, ?_⟩
      rw [own_ltn (by omega) (by omega)] at c7
      rw [own_cnt_eq xs v lo (by omega) hlo (fun j x hj => hhi j x (by omega))]
    · refine r_iloadN X0 cx P19m2_10 rfl ?_
      refine r_iloadN X0 cx P19m2_11 rfl ?_
      refine r_iadd X0 cx P19m2_12 ?_
      refine r_iconst (1) X0 cx P19m2_13 rfl ?_
      refine r_iushr X0 cx P19m2_14 ?_
      refine r_istore (fun zz => #[.val (.ref r), .val (.int v), .val (.int (Int32.ofNat lo)), .val (.int (Int32.ofNat hi)), .val (.int zz)]) X0 cx P19m2_15 hst (fun mid e_mid => ?_)
      rw [own_ltn (by omega) (by omega)] at c7
      rw [own_mid (by omega) (by omega)] at e_mid
      have hmid : (lo + hi) / 2 < xs.length := by omega
      obtain ⟨y, hy⟩ : ∃ y, xs[(lo + hi) / 2]? = some y := ⟨_, List.getElem?_eq_getElem hmid⟩
      refine r_aloadN X0 cx P19m2_17 rfl ?_
      refine r_iload X0 cx P19m2_18 rfl ?_
      refine r_iaload X0 cx P19m2_20 A_r ((lo + hi) / 2) e_mid (v := y) hy ?_
      refine r_iloadN X0 cx P19m2_21 rfl ?_
      refine r_icmpge X0 cx P19m2_22 (fun c22 => ?_) (fun c22 => ?_)
      · refine r_iload X0 cx P19m2_33 rfl ?_
        refine r_istoreN (fun zz => #[.val (.ref r), .val (.int v), .val (.int (Int32.ofNat lo)), .val (.int zz), .val (.int mid)]) X0 cx P19m2_35 (fun _ => rfl) (fun hi2 e_hi2 => ?_)
        refine r_goto X0 cx P19m2_36 ?_
        have e2 : hi2 = Int32.ofNat ((lo + hi) / 2) := e_hi2.trans e_mid
        subst e2
        exact ih _ _ _ _ (by omega) (by omega) (by omega) hlo (fun j x hj hx q => c22 (Int32.lt_of_le_of_lt (Int32.not_lt.mp (hs ((lo + hi) / 2) j y x (by omega) hy hx)) q)) (fun _ => rfl) X0
      · refine r_iload X0 cx P19m2_25 rfl ?_
        refine r_iconst (1) X0 cx P19m2_27 rfl ?_
        refine r_iadd X0 cx P19m2_28 ?_
        refine r_istoreN (fun zz => #[.val (.ref r), .val (.int v), .val (.int zz), .val (.int (Int32.ofNat hi)), .val (.int mid)]) X0 cx P19m2_29 (fun _ => rfl) (fun lo2 e_lo2 => ?_)
        refine r_goto X0 cx P19m2_30 ?_
        refine r_goto X0 cx P19m2_36 ?_
        have e2 : lo2 = Int32.ofNat ((lo + hi) / 2 + 1) := by rw [e_lo2, e_mid]; exact (Int32.ofNat_add _ 1).symm
        subst e2
        exact ih _ _ _ _ (by omega) (by omega) hh (fun j x hj hx => Int32.lt_of_le_of_lt (Int32.not_lt.mp (hs j ((lo + hi) / 2) x y (by omega) hx hy)) (by first | exact c22 | exact Int32.not_le.mp c22 | exact Classical.not_not.mp c22)) hhi (fun _ => rfl) X0
theorem ef_P19m2 (m : MethodId) (r : Addr) (v : Int32) : entryFrame m #[(.ref r), (.int v)] 5 = mkF m 0 #[.val (.ref r), .val (.int v), .unset, .unset, .unset] [] := by first | (simp [entryFrame, mkF, argsToLocals, Value.category]; done) | rfl
set_option maxRecDepth 65536 in
set_option maxHeartbeats 40000000 in
theorem con_P19m2 (l : Launch) (Z : State) (a0 : Array Value) (hw : Tb tables_1 a0 Z) (r : Addr) (v : Int32) (h0 : Heap) (n0 : Nat) (Z0 : n0 ≤ h0.size) (xs : List Int32) (A_r : AI .int Z h0 r xs) (hn : xs.length < 2 ^ 30) (hs : ∀ (i j : Nat) (x y : Int32), i ≤ j → xs[i]? = some x → xs[j]? = some y → ¬ y < x) :
    Con l Z (⟨"com/example/dipper/dipper/correct/SortedInts", "firstFrom", "([II)I"⟩ : MethodName) prog_19_method_2_code 5 (some (.int)) ({ frames := 0, cells := 0, slots := 0, locals := 0 } : Room) #[(.ref r), (.int v)] h0 n0 (fun r h => h0 = h ∧ r = some (.int (Int32.ofNat (own_cnt xs v)))) := by
  refine Con.of (plainFor_of_name (by decide +kernel)) Z0 ?_
  intro K hl hZ hn cx T0 X0
  subst hl hZ hn
  refine Run.cast (ef_P19m2 K.m r v) ?_
  refine r_iconst (0) X0 cx P19m2_0 rfl ?_
  refine r_istoreN (fun zz => #[.val (.ref r), .val (.int v), .val (.int zz), .unset, .unset]) X0 cx P19m2_1 (fun _ => rfl) (fun i1 e_i1 => ?_)
  subst e_i1
  refine r_aloadN X0 cx P19m2_2 rfl ?_
  refine r_alen X0 cx P19m2_3 A_r (xs.length) rfl ?_
  refine r_istoreN (fun zz => #[.val (.ref r), .val (.int v), .val (.int (0 : Int32)), .val (.int zz), .unset]) X0 cx P19m2_4 (fun _ => rfl) (fun hi e_hi => ?_)
  subst e_hi
  exact own_loop cx r v h0 xs A_r hn hs xs.length 0 xs.length _ _ (by omega) (by omega) (Nat.le_refl _) (fun j x hj => absurd hj (by omega)) (fun j x hj hx => absurd (List.getElem?_eq_some_iff.mp hx).1 (by omega)) (fun _ => rfl) X0
theorem own_m7 (x : Int32) : x &&& 7 = 0 ∨ x &&& 7 = 1 ∨ x &&& 7 = 2 ∨ x &&& 7 = 3 ∨ x &&& 7 = 4 ∨ x &&& 7 = 5 ∨ x &&& 7 = 6 ∨ x &&& 7 = 7 := by
  have h : (x &&& 7).toBitVec.toNat ≤ 7 := by
    simp only [Int32.toBitVec_and, BitVec.toNat_and]; exact Nat.and_le_right
  have e : (x &&& 7) = Int32.ofNat (x &&& 7).toBitVec.toNat := by
    apply Int32.toBitVec_inj.mp
    show _ = BitVec.ofNat 32 _
    rw [BitVec.ofNat_toNat]; simp
  rw [e]
  generalize (x &&& 7).toBitVec.toNat = n at h
  have : n = 0 ∨ n = 1 ∨ n = 2 ∨ n = 3 ∨ n = 4 ∨ n = 5 ∨ n = 6 ∨ n = 7 := by omega
  rcases this with rfl | rfl | rfl | rfl | rfl | rfl | rfl | rfl <;> decide
def own_in (e : Int64) : Prop := -2147483648 ≤ e.toInt ∧ e.toInt ≤ 2147483647
theorem own_in0 (b : Int32) : own_in (Int32.toInt64 b) := by
  unfold own_in
  rw [Int32.toInt_toInt64]
  have := b.toInt_lt; have := b.le_toInt
  omega
theorem own_and3 (x : Int32) : 0 ≤ (Int32.toInt64 (x &&& 3)).toInt ∧ (Int32.toInt64 (x &&& 3)).toInt ≤ 3 := by
  rw [Int32.toInt_toInt64]
  have hle : (x &&& 3).toBitVec.toNat ≤ 3 := by
    rw [Int32.toBitVec_and, BitVec.toNat_and]; exact Nat.and_le_right
  show 0 ≤ (x &&& 3).toBitVec.toInt ∧ (x &&& 3).toBitVec.toInt ≤ 3
  rw [BitVec.toInt_eq_toNat_of_lt (by omega)]
  omega
theorem own_nx {e : Int64} (h : own_in e) (d i : Int32) : own_in (own_next e d i) ∧ e.toInt ≤ (own_next e d i).toInt := by
  unfold own_in at h
  have hd := own_and3 (XT.ushr d (2 * i))
  have ha : (e + Int32.toInt64 (XT.ushr d (2 * i) &&& 3)).toInt = e.toInt + (Int32.toInt64 (XT.ushr d (2 * i) &&& 3)).toInt := by
    rw [Int64.toInt_add]; exact Int.bmod_eq_of_le (by omega) (by omega)
  have hm : (2147483647 : Int64).toInt = 2147483647 := by decide
  unfold own_in own_next own_min
  split
  · rename_i q; rw [Int64.lt_iff_toInt_lt] at q; omega
  · rename_i q; rw [Int64.lt_iff_toInt_lt] at q; omega
theorem own_lc {e : Int64} (h : own_in e) (v : Int32) : e < Int32.toInt64 v ↔ Int64.toInt32 e < v := by
  unfold own_in at h
  rw [Int64.lt_iff_toInt_lt, Int32.lt_iff_toInt_lt, Int32.toInt_toInt64, Int64.toInt_toInt32, Int.bmod_eq_of_le (by omega) (by omega)]
theorem own_le {e f : Int64} (h : own_in e) (h2 : own_in f) (q : e.toInt ≤ f.toInt) : ¬ Int64.toInt32 f < Int64.toInt32 e := by
  unfold own_in at h h2
  rw [Int32.lt_iff_toInt_lt, Int64.toInt_toInt32, Int64.toInt_toInt32, Int.bmod_eq_of_le (by omega) (by omega), Int.bmod_eq_of_le (by omega) (by omega)]
  omega
theorem own_b1 {e : Int64} (h : own_in e) (v : Int32) : own_below 1 e v = if Int64.toInt32 e < v then 1 else 0 := by
  unfold own_below; simp [own_lc h]
theorem own_b0 (e : Int64) (v : Int32) : own_below 0 e v = 0 := by
  unfold own_below; simp
def own_asc : List Int32 → Prop
  | [] => True
  | x :: r => (∀ y ∈ r, ¬ y < x) ∧ own_asc r
theorem own_asc_at : ∀ (xs : List Int32), own_asc xs → ∀ (i j : Nat) (x y : Int32), i ≤ j → xs[i]? = some x → xs[j]? = some y → ¬ y < x
  | [], _, i, j, x, y, _, h, _ => by simp at h
  | a :: r, h, 0, 0, x, y, _, hx, hy => by
    simp at hx hy; subst hx hy; exact Int32.lt_irrefl
  | a :: r, h, 0, j + 1, x, y, _, hx, hy => by
    simp at hx hy; subst hx; exact h.1 y (List.mem_of_getElem? hy)
  | a :: r, h, i + 1, 0, x, y, hij, _, _ => absurd hij (by omega)
  | a :: r, h, i + 1, j + 1, x, y, hij, hx, hy => own_asc_at r h.2 i j x y (by omega) (by simpa using hx) (by simpa using hy)
theorem own_cc (x : Int32) (r : List Int32) (v : Int32) : Int32.ofNat (own_cnt (x :: r) v) = (if x < v then 1 else 0) + Int32.ofNat (own_cnt r v) := by
  unfold own_cnt
  rw [List.countP_cons, Int32.ofNat_add, Int32.add_comm]
  by_cases q : x < v <;> simp [q]
theorem own_c0 (v : Int32) : Int32.ofNat (own_cnt [] v) = 0 := rfl
theorem L_0 : Dc code 0 (.iload_n 2) 1 1 := ⟨at_0, rfl⟩
theorem L_1 : Dc code 1 (.bipush 7) 2 3 := ⟨at_1, rfl⟩
theorem L_3 : Dc code 3 (.iand) 1 4 := ⟨at_3, rfl⟩
theorem L_4 : Dc code 4 (.istore 4) 2 6 := ⟨at_4, rfl⟩
theorem L_6 : Dc code 6 (.iload_n 0) 1 7 := ⟨at_6, rfl⟩
theorem L_7 : Dc code 7 (.i2l) 1 8 := ⟨at_7, rfl⟩
theorem L_8 : Dc code 8 (.lstore 5) 2 10 := ⟨at_8, rfl⟩
theorem L_10 : Dc code 10 (.lload 5) 2 12 := ⟨at_10, rfl⟩
theorem L_12 : Dc code 12 (.iload_n 1) 1 13 := ⟨at_12, rfl⟩
theorem L_13 : Dc code 13 (.iconst 0) 1 14 := ⟨at_13, rfl⟩
theorem L_14 : Dc code 14 (.invokestatic 7) 3 17 := ⟨at_14, rfl⟩
theorem L_17 : Dc code 17 (.lstore 7) 2 19 := ⟨at_17, rfl⟩
theorem L_19 : Dc code 19 (.lload 7) 2 21 := ⟨at_19, rfl⟩
theorem L_21 : Dc code 21 (.iload_n 1) 1 22 := ⟨at_21, rfl⟩
theorem L_22 : Dc code 22 (.iconst 1) 1 23 := ⟨at_22, rfl⟩
theorem L_23 : Dc code 23 (.invokestatic 7) 3 26 := ⟨at_23, rfl⟩
theorem L_26 : Dc code 26 (.lstore 9) 2 28 := ⟨at_26, rfl⟩
theorem L_28 : Dc code 28 (.lload 9) 2 30 := ⟨at_28, rfl⟩
theorem L_30 : Dc code 30 (.iload_n 1) 1 31 := ⟨at_30, rfl⟩
theorem L_31 : Dc code 31 (.iconst 2) 1 32 := ⟨at_31, rfl⟩
theorem L_32 : Dc code 32 (.invokestatic 7) 3 35 := ⟨at_32, rfl⟩
theorem L_35 : Dc code 35 (.lstore 11) 2 37 := ⟨at_35, rfl⟩
theorem L_37 : Dc code 37 (.lload 11) 2 39 := ⟨at_37, rfl⟩
theorem L_39 : Dc code 39 (.iload_n 1) 1 40 := ⟨at_39, rfl⟩
theorem L_40 : Dc code 40 (.iconst 3) 1 41 := ⟨at_40, rfl⟩
theorem L_41 : Dc code 41 (.invokestatic 7) 3 44 := ⟨at_41, rfl⟩
theorem L_44 : Dc code 44 (.lstore 13) 2 46 := ⟨at_44, rfl⟩
theorem L_46 : Dc code 46 (.lload 13) 2 48 := ⟨at_46, rfl⟩
theorem L_48 : Dc code 48 (.iload_n 1) 1 49 := ⟨at_48, rfl⟩
theorem L_49 : Dc code 49 (.iconst 4) 1 50 := ⟨at_49, rfl⟩
theorem L_50 : Dc code 50 (.invokestatic 7) 3 53 := ⟨at_50, rfl⟩
theorem L_53 : Dc code 53 (.lstore 15) 2 55 := ⟨at_53, rfl⟩
theorem L_55 : Dc code 55 (.lload 15) 2 57 := ⟨at_55, rfl⟩
theorem L_57 : Dc code 57 (.iload_n 1) 1 58 := ⟨at_57, rfl⟩
theorem L_58 : Dc code 58 (.iconst 5) 1 59 := ⟨at_58, rfl⟩
theorem L_59 : Dc code 59 (.invokestatic 7) 3 62 := ⟨at_59, rfl⟩
theorem L_62 : Dc code 62 (.lstore 17) 2 64 := ⟨at_62, rfl⟩
theorem L_64 : Dc code 64 (.iload_n 2) 1 65 := ⟨at_64, rfl⟩
theorem L_65 : Dc code 65 (.iconst 3) 1 66 := ⟨at_65, rfl⟩
theorem L_66 : Dc code 66 (.iushr) 1 67 := ⟨at_66, rfl⟩
theorem L_67 : Dc code 67 (.iconst 1) 1 68 := ⟨at_67, rfl⟩
theorem L_68 : Dc code 68 (.iand) 1 69 := ⟨at_68, rfl⟩
theorem L_69 : Db code 69 (.ifCond .eq 9) (9) 72 78 := ⟨at_69, rfl, by decide, by decide⟩
theorem L_72 : Dc code 72 (.iload_n 3) 1 73 := ⟨at_72, rfl⟩
theorem L_73 : Dc code 73 (.istore 19) 2 75 := ⟨at_73, rfl⟩
theorem L_75 : Db code 75 (.goto 32) (32) 78 107 := ⟨at_75, rfl, by decide, by decide⟩
theorem L_78 : Dc code 78 (.iload_n 0) 1 79 := ⟨at_78, rfl⟩
theorem L_79 : Dc code 79 (.i2l) 1 80 := ⟨at_79, rfl⟩
theorem L_80 : Dc code 80 (.iload_n 3) 1 81 := ⟨at_80, rfl⟩
theorem L_81 : Dc code 81 (.bipush 31) 2 83 := ⟨at_81, rfl⟩
theorem L_83 : Dc code 83 (.iand) 1 84 := ⟨at_83, rfl⟩
theorem L_84 : Dc code 84 (.iconst 4) 1 85 := ⟨at_84, rfl⟩
theorem L_85 : Dc code 85 (.isub) 1 86 := ⟨at_85, rfl⟩
theorem L_86 : Dc code 86 (.i2l) 1 87 := ⟨at_86, rfl⟩
theorem L_87 : Dc code 87 (.ladd) 1 88 := ⟨at_87, rfl⟩
theorem L_88 : Dc code 88 (.lstore 20) 2 90 := ⟨at_88, rfl⟩
theorem L_90 : Dc code 90 (.ldc2_w 15) 3 93 := ⟨at_90, rfl⟩
theorem L_93 : Dc code 93 (.ldc2_w 17) 3 96 := ⟨at_93, rfl⟩
theorem L_96 : Dc code 96 (.lload 20) 2 98 := ⟨at_96, rfl⟩
theorem L_98 : Dc code 98 (.invokestatic 19) 3 101 := ⟨at_98, rfl⟩
theorem L_101 : Dc code 101 (.invokestatic 25) 3 104 := ⟨at_101, rfl⟩
theorem L_104 : Dc code 104 (.l2i) 1 105 := ⟨at_104, rfl⟩
theorem L_105 : Dc code 105 (.istore 19) 2 107 := ⟨at_105, rfl⟩
theorem L_107 : Dc code 107 (.iload 4) 2 109 := ⟨at_107, rfl⟩
theorem L_109 : Dc code 109 (.newarray .int) 2 111 := ⟨at_109, rfl⟩
theorem L_111 : Dc code 111 (.astore 20) 2 113 := ⟨at_111, rfl⟩
theorem L_113 : Dc code 113 (.iload 4) 2 115 := ⟨at_113, rfl⟩
theorem L_115 : Db code 115 (.ifCond .le 10) (10) 118 125 := ⟨at_115, rfl, by decide, by decide⟩
theorem L_118 : Dc code 118 (.aload 20) 2 120 := ⟨at_118, rfl⟩
theorem L_120 : Dc code 120 (.iconst 0) 1 121 := ⟨at_120, rfl⟩
theorem L_121 : Dc code 121 (.lload 5) 2 123 := ⟨at_121, rfl⟩
theorem L_123 : Dc code 123 (.l2i) 1 124 := ⟨at_123, rfl⟩
theorem L_124 : Dc code 124 (.iastore) 1 125 := ⟨at_124, rfl⟩
theorem L_125 : Dc code 125 (.iload 4) 2 127 := ⟨at_125, rfl⟩
theorem L_127 : Dc code 127 (.iconst 1) 1 128 := ⟨at_127, rfl⟩
theorem L_128 : Db code 128 (.if_icmp .le 10) (10) 131 138 := ⟨at_128, rfl, by decide, by decide⟩
theorem L_131 : Dc code 131 (.aload 20) 2 133 := ⟨at_131, rfl⟩
theorem L_133 : Dc code 133 (.iconst 1) 1 134 := ⟨at_133, rfl⟩
theorem L_134 : Dc code 134 (.lload 7) 2 136 := ⟨at_134, rfl⟩
theorem L_136 : Dc code 136 (.l2i) 1 137 := ⟨at_136, rfl⟩
theorem L_137 : Dc code 137 (.iastore) 1 138 := ⟨at_137, rfl⟩
theorem L_138 : Dc code 138 (.iload 4) 2 140 := ⟨at_138, rfl⟩
theorem L_140 : Dc code 140 (.iconst 2) 1 141 := ⟨at_140, rfl⟩
theorem L_141 : Db code 141 (.if_icmp .le 10) (10) 144 151 := ⟨at_141, rfl, by decide, by decide⟩
theorem L_144 : Dc code 144 (.aload 20) 2 146 := ⟨at_144, rfl⟩
theorem L_146 : Dc code 146 (.iconst 2) 1 147 := ⟨at_146, rfl⟩
theorem L_147 : Dc code 147 (.lload 9) 2 149 := ⟨at_147, rfl⟩
theorem L_149 : Dc code 149 (.l2i) 1 150 := ⟨at_149, rfl⟩
theorem L_150 : Dc code 150 (.iastore) 1 151 := ⟨at_150, rfl⟩
theorem L_151 : Dc code 151 (.iload 4) 2 153 := ⟨at_151, rfl⟩
theorem L_153 : Dc code 153 (.iconst 3) 1 154 := ⟨at_153, rfl⟩
theorem L_154 : Db code 154 (.if_icmp .le 10) (10) 157 164 := ⟨at_154, rfl, by decide, by decide⟩
theorem L_157 : Dc code 157 (.aload 20) 2 159 := ⟨at_157, rfl⟩
theorem L_159 : Dc code 159 (.iconst 3) 1 160 := ⟨at_159, rfl⟩
theorem L_160 : Dc code 160 (.lload 11) 2 162 := ⟨at_160, rfl⟩
theorem L_162 : Dc code 162 (.l2i) 1 163 := ⟨at_162, rfl⟩
theorem L_163 : Dc code 163 (.iastore) 1 164 := ⟨at_163, rfl⟩
theorem L_164 : Dc code 164 (.iload 4) 2 166 := ⟨at_164, rfl⟩
theorem L_166 : Dc code 166 (.iconst 4) 1 167 := ⟨at_166, rfl⟩
theorem L_167 : Db code 167 (.if_icmp .le 10) (10) 170 177 := ⟨at_167, rfl, by decide, by decide⟩
theorem L_170 : Dc code 170 (.aload 20) 2 172 := ⟨at_170, rfl⟩
theorem L_172 : Dc code 172 (.iconst 4) 1 173 := ⟨at_172, rfl⟩
theorem L_173 : Dc code 173 (.lload 13) 2 175 := ⟨at_173, rfl⟩
theorem L_175 : Dc code 175 (.l2i) 1 176 := ⟨at_175, rfl⟩
theorem L_176 : Dc code 176 (.iastore) 1 177 := ⟨at_176, rfl⟩
theorem L_177 : Dc code 177 (.iload 4) 2 179 := ⟨at_177, rfl⟩
theorem L_179 : Dc code 179 (.iconst 5) 1 180 := ⟨at_179, rfl⟩
theorem L_180 : Db code 180 (.if_icmp .le 10) (10) 183 190 := ⟨at_180, rfl, by decide, by decide⟩
theorem L_183 : Dc code 183 (.aload 20) 2 185 := ⟨at_183, rfl⟩
theorem L_185 : Dc code 185 (.iconst 5) 1 186 := ⟨at_185, rfl⟩
theorem L_186 : Dc code 186 (.lload 15) 2 188 := ⟨at_186, rfl⟩
theorem L_188 : Dc code 188 (.l2i) 1 189 := ⟨at_188, rfl⟩
theorem L_189 : Dc code 189 (.iastore) 1 190 := ⟨at_189, rfl⟩
theorem L_190 : Dc code 190 (.iload 4) 2 192 := ⟨at_190, rfl⟩
theorem L_192 : Dc code 192 (.bipush 6) 2 194 := ⟨at_192, rfl⟩
theorem L_194 : Db code 194 (.if_icmp .le 11) (11) 197 205 := ⟨at_194, rfl, by decide, by decide⟩
theorem L_197 : Dc code 197 (.aload 20) 2 199 := ⟨at_197, rfl⟩
theorem L_199 : Dc code 199 (.bipush 6) 2 201 := ⟨at_199, rfl⟩
theorem L_201 : Dc code 201 (.lload 17) 2 203 := ⟨at_201, rfl⟩
theorem L_203 : Dc code 203 (.l2i) 1 204 := ⟨at_203, rfl⟩
theorem L_204 : Dc code 204 (.iastore) 1 205 := ⟨at_204, rfl⟩
theorem L_205 : Dc code 205 (.iload 4) 2 207 := ⟨at_205, rfl⟩
theorem L_207 : Db code 207 (.ifCond .le 7) (7) 210 214 := ⟨at_207, rfl, by decide, by decide⟩
theorem L_210 : Dc code 210 (.iconst 1) 1 211 := ⟨at_210, rfl⟩
theorem L_211 : Db code 211 (.goto 4) (4) 214 215 := ⟨at_211, rfl, by decide, by decide⟩
theorem L_214 : Dc code 214 (.iconst 0) 1 215 := ⟨at_214, rfl⟩
theorem L_215 : Dc code 215 (.lload 5) 2 217 := ⟨at_215, rfl⟩
theorem L_217 : Dc code 217 (.iload 19) 2 219 := ⟨at_217, rfl⟩
theorem L_219 : Dc code 219 (.invokestatic 28) 3 222 := ⟨at_219, rfl⟩
theorem L_222 : Dc code 222 (.iload 4) 2 224 := ⟨at_222, rfl⟩
theorem L_224 : Dc code 224 (.iconst 1) 1 225 := ⟨at_224, rfl⟩
theorem L_225 : Db code 225 (.if_icmp .le 7) (7) 228 232 := ⟨at_225, rfl, by decide, by decide⟩
theorem L_228 : Dc code 228 (.iconst 1) 1 229 := ⟨at_228, rfl⟩
theorem L_229 : Db code 229 (.goto 4) (4) 232 233 := ⟨at_229, rfl, by decide, by decide⟩
theorem L_232 : Dc code 232 (.iconst 0) 1 233 := ⟨at_232, rfl⟩
theorem L_233 : Dc code 233 (.lload 7) 2 235 := ⟨at_233, rfl⟩
theorem L_235 : Dc code 235 (.iload 19) 2 237 := ⟨at_235, rfl⟩
theorem L_237 : Dc code 237 (.invokestatic 28) 3 240 := ⟨at_237, rfl⟩
theorem L_240 : Dc code 240 (.iadd) 1 241 := ⟨at_240, rfl⟩
theorem L_241 : Dc code 241 (.iload 4) 2 243 := ⟨at_241, rfl⟩
theorem L_243 : Dc code 243 (.iconst 2) 1 244 := ⟨at_243, rfl⟩
theorem L_244 : Db code 244 (.if_icmp .le 7) (7) 247 251 := ⟨at_244, rfl, by decide, by decide⟩
theorem L_247 : Dc code 247 (.iconst 1) 1 248 := ⟨at_247, rfl⟩
theorem L_248 : Db code 248 (.goto 4) (4) 251 252 := ⟨at_248, rfl, by decide, by decide⟩
theorem L_251 : Dc code 251 (.iconst 0) 1 252 := ⟨at_251, rfl⟩
theorem L_252 : Dc code 252 (.lload 9) 2 254 := ⟨at_252, rfl⟩
theorem L_254 : Dc code 254 (.iload 19) 2 256 := ⟨at_254, rfl⟩
theorem L_256 : Dc code 256 (.invokestatic 28) 3 259 := ⟨at_256, rfl⟩
theorem L_259 : Dc code 259 (.iadd) 1 260 := ⟨at_259, rfl⟩
theorem L_260 : Dc code 260 (.iload 4) 2 262 := ⟨at_260, rfl⟩
theorem L_262 : Dc code 262 (.iconst 3) 1 263 := ⟨at_262, rfl⟩
theorem L_263 : Db code 263 (.if_icmp .le 7) (7) 266 270 := ⟨at_263, rfl, by decide, by decide⟩
theorem L_266 : Dc code 266 (.iconst 1) 1 267 := ⟨at_266, rfl⟩
theorem L_267 : Db code 267 (.goto 4) (4) 270 271 := ⟨at_267, rfl, by decide, by decide⟩
theorem L_270 : Dc code 270 (.iconst 0) 1 271 := ⟨at_270, rfl⟩
theorem L_271 : Dc code 271 (.lload 11) 2 273 := ⟨at_271, rfl⟩
theorem L_273 : Dc code 273 (.iload 19) 2 275 := ⟨at_273, rfl⟩
theorem L_275 : Dc code 275 (.invokestatic 28) 3 278 := ⟨at_275, rfl⟩
theorem L_278 : Dc code 278 (.iadd) 1 279 := ⟨at_278, rfl⟩
theorem L_279 : Dc code 279 (.iload 4) 2 281 := ⟨at_279, rfl⟩
theorem L_281 : Dc code 281 (.iconst 4) 1 282 := ⟨at_281, rfl⟩
theorem L_282 : Db code 282 (.if_icmp .le 7) (7) 285 289 := ⟨at_282, rfl, by decide, by decide⟩
theorem L_285 : Dc code 285 (.iconst 1) 1 286 := ⟨at_285, rfl⟩
theorem L_286 : Db code 286 (.goto 4) (4) 289 290 := ⟨at_286, rfl, by decide, by decide⟩
theorem L_289 : Dc code 289 (.iconst 0) 1 290 := ⟨at_289, rfl⟩
theorem L_290 : Dc code 290 (.lload 13) 2 292 := ⟨at_290, rfl⟩
theorem L_292 : Dc code 292 (.iload 19) 2 294 := ⟨at_292, rfl⟩
theorem L_294 : Dc code 294 (.invokestatic 28) 3 297 := ⟨at_294, rfl⟩
theorem L_297 : Dc code 297 (.iadd) 1 298 := ⟨at_297, rfl⟩
theorem L_298 : Dc code 298 (.iload 4) 2 300 := ⟨at_298, rfl⟩
theorem L_300 : Dc code 300 (.iconst 5) 1 301 := ⟨at_300, rfl⟩
theorem L_301 : Db code 301 (.if_icmp .le 7) (7) 304 308 := ⟨at_301, rfl, by decide, by decide⟩
theorem L_304 : Dc code 304 (.iconst 1) 1 305 := ⟨at_304, rfl⟩
theorem L_305 : Db code 305 (.goto 4) (4) 308 309 := ⟨at_305, rfl, by decide, by decide⟩
theorem L_308 : Dc code 308 (.iconst 0) 1 309 := ⟨at_308, rfl⟩
theorem L_309 : Dc code 309 (.lload 15) 2 311 := ⟨at_309, rfl⟩
theorem L_311 : Dc code 311 (.iload 19) 2 313 := ⟨at_311, rfl⟩
theorem L_313 : Dc code 313 (.invokestatic 28) 3 316 := ⟨at_313, rfl⟩
theorem L_316 : Dc code 316 (.iadd) 1 317 := ⟨at_316, rfl⟩
theorem L_317 : Dc code 317 (.iload 4) 2 319 := ⟨at_317, rfl⟩
theorem L_319 : Dc code 319 (.bipush 6) 2 321 := ⟨at_319, rfl⟩
theorem L_321 : Db code 321 (.if_icmp .le 7) (7) 324 328 := ⟨at_321, rfl, by decide, by decide⟩
theorem L_324 : Dc code 324 (.iconst 1) 1 325 := ⟨at_324, rfl⟩
theorem L_325 : Db code 325 (.goto 4) (4) 328 329 := ⟨at_325, rfl, by decide, by decide⟩
theorem L_328 : Dc code 328 (.iconst 0) 1 329 := ⟨at_328, rfl⟩
theorem L_329 : Dc code 329 (.lload 17) 2 331 := ⟨at_329, rfl⟩
theorem L_331 : Dc code 331 (.iload 19) 2 333 := ⟨at_331, rfl⟩
theorem L_333 : Dc code 333 (.invokestatic 28) 3 336 := ⟨at_333, rfl⟩
theorem L_336 : Dc code 336 (.iadd) 1 337 := ⟨at_336, rfl⟩
theorem L_337 : Dc code 337 (.istore 21) 2 339 := ⟨at_337, rfl⟩
theorem L_339 : Dc code 339 (.aload 20) 2 341 := ⟨at_339, rfl⟩
theorem L_341 : Dc code 341 (.iload 19) 2 343 := ⟨at_341, rfl⟩
theorem L_343 : Dc code 343 (.invokestatic 32) 3 346 := ⟨at_343, rfl⟩
theorem L_346 : Dc code 346 (.iload 21) 2 348 := ⟨at_346, rfl⟩
theorem L_348 : Db code 348 (.if_icmp .ne 7) (7) 351 355 := ⟨at_348, rfl, by decide, by decide⟩
theorem L_351 : Dc code 351 (.iconst 1) 1 352 := ⟨at_351, rfl⟩
theorem L_352 : Db code 352 (.goto 4) (4) 355 356 := ⟨at_352, rfl, by decide, by decide⟩
theorem L_355 : Dc code 355 (.iconst 0) 1 356 := ⟨at_355, rfl⟩
theorem L_356 : Dc code 356 (.ireturn) 1 357 := ⟨at_356, rfl⟩
theorem ef_L (m : MethodId) (i0 : Int32) (i1 : Int32) (i2 : Int32) (i3 : Int32) : entryFrame m #[(.int i0), (.int i1), (.int i2), (.int i3)] maxLocals = mkF m 0 #[.val (.int i0), .val (.int i1), .val (.int i2), .val (.int i3), .unset, .unset, .unset, .unset, .unset, .unset, .unset, .unset, .unset, .unset, .unset, .unset, .unset, .unset, .unset, .unset, .unset, .unset] [] := by first | (simp [entryFrame, mkF, argsToLocals, Value.category, maxLocals]; done) | rfl
set_option maxRecDepth 65536 in
set_option maxHeartbeats 40000000 in
theorem con_L (l : Launch) (Z : State) (a0 : Array Value) (hw : Tb tables_1 a0 Z) (i0 : Int32) (i1 : Int32) (i2 : Int32) (i3 : Int32) (h0 : Heap) (n0 : Nat) (Z0 : n0 ≤ h0.size)  :
    Con l Z x code maxLocals ret room_1 #[(.int i0), (.int i1), (.int i2), (.int i3)] h0 n0 (fun v _ => v = some (.int 1)) := by
  refine Con.of (plainFor_of_name (by decide +kernel)) Z0 ?_
  intro K hl hZ hn cx T0 X0
  subst hl hZ hn
  refine Run.cast (ef_L K.m i0 i1 i2 i3) ?_
  refine r_iloadN X0 cx L_0 rfl ?_
  refine r_bipush (7) X0 cx L_1 rfl ?_
  refine r_iand X0 cx L_3 ?_
  refine r_istore (fun zz => #[.val (.int i0), .val (.int i1), .val (.int i2), .val (.int i3), .val (.int zz), .unset, .unset, .unset, .unset, .unset, .unset, .unset, .unset, .unset, .unset, .unset, .unset, .unset, .unset, .unset, .unset, .unset]) X0 cx L_4 (fun _ => rfl) (fun n7 e_n7 => ?_)
  refine r_iloadN X0 cx L_6 rfl ?_
  refine r_i2l X0 cx L_7 ?_
  refine r_lstore (fun zz => #[.val (.int i0), .val (.int i1), .val (.int i2), .val (.int i3), .val (.int n7), .val (.long zz), .second, .unset, .unset, .unset, .unset, .unset, .unset, .unset, .unset, .unset, .unset, .unset, .unset, .unset, .unset, .unset]) X0 cx L_8 (fun _ => rfl) (fun e0 e_e0 => ?_)
  refine r_lload X0 cx L_10 rfl ?_
  refine r_iloadN X0 cx L_12 rfl ?_
  refine r_iconst (0) X0 cx L_13 rfl ?_
  refine r_static [(.long e0), (.int i1), (.int (0 : Int32))] [] X0 cx L_14 (hw.get 0 rfl) (hw.get 1 rfl) (hw.get 2 rfl) (hw.get 3 rfl) (by decide) (con_H3 K.l K.Z a0 hw e0 i1 (0 : Int32) h0 K.n0 X0.ge) (lenOf pd_1 rfl) rfl rfl (by decide) (leb rfl) (by decide) (by decide) (fun T1 h1 v1 X1 q1 => ?_) (fun _ _ q => Nat.le_of_eq (congrArg Array.size q.1))
  obtain ⟨rfl, rfl⟩ := q1
  refine r_lstore (fun zz => #[.val (.int i0), .val (.int i1), .val (.int i2), .val (.int i3), .val (.int n7), .val (.long e0), .second, .val (.long zz), .second, .unset, .unset, .unset, .unset, .unset, .unset, .unset, .unset, .unset, .unset, .unset, .unset, .unset]) X1 cx L_17 (fun _ => rfl) (fun e1 e_e1 => ?_)
  refine r_lload X1 cx L_19 rfl ?_
  refine r_iloadN X1 cx L_21 rfl ?_
  refine r_iconst (1) X1 cx L_22 rfl ?_
  refine r_static [(.long e1), (.int i1), (.int (1 : Int32))] [] X1 cx L_23 (hw.get 0 rfl) (hw.get 1 rfl) (hw.get 2 rfl) (hw.get 3 rfl) (by decide) (con_H3 K.l K.Z a0 hw e1 i1 (1 : Int32) h0 K.n0 X1.ge) (lenOf pd_1 rfl) rfl rfl (by decide) (leb rfl) (by decide) (by decide) (fun T2 h2 v2 X2 q2 => ?_) (fun _ _ q => Nat.le_of_eq (congrArg Array.size q.1))
  obtain ⟨rfl, rfl⟩ := q2
  refine r_lstore (fun zz => #[.val (.int i0), .val (.int i1), .val (.int i2), .val (.int i3), .val (.int n7), .val (.long e0), .second, .val (.long e1), .second, .val (.long zz), .second, .unset, .unset, .unset, .unset, .unset, .unset, .unset, .unset, .unset, .unset, .unset]) X2 cx L_26 (fun _ => rfl) (fun e2 e_e2 => ?_)
  refine r_lload X2 cx L_28 rfl ?_
  refine r_iloadN X2 cx L_30 rfl ?_
  refine r_iconst (2) X2 cx L_31 rfl ?_
  refine r_static [(.long e2), (.int i1), (.int (2 : Int32))] [] X2 cx L_32 (hw.get 0 rfl) (hw.get 1 rfl) (hw.get 2 rfl) (hw.get 3 rfl) (by decide) (con_H3 K.l K.Z a0 hw e2 i1 (2 : Int32) h0 K.n0 X2.ge) (lenOf pd_1 rfl) rfl rfl (by decide) (leb rfl) (by decide) (by decide) (fun T3 h3 v3 X3 q3 => ?_) (fun _ _ q => Nat.le_of_eq (congrArg Array.size q.1))
  obtain ⟨rfl, rfl⟩ := q3
  refine r_lstore (fun zz => #[.val (.int i0), .val (.int i1), .val (.int i2), .val (.int i3), .val (.int n7), .val (.long e0), .second, .val (.long e1), .second, .val (.long e2), .second, .val (.long zz), .second, .unset, .unset, .unset, .unset, .unset, .unset, .unset, .unset, .unset]) X3 cx L_35 (fun _ => rfl) (fun e3 e_e3 => ?_)
  refine r_lload X3 cx L_37 rfl ?_
  refine r_iloadN X3 cx L_39 rfl ?_
  refine r_iconst (3) X3 cx L_40 rfl ?_
  refine r_static [(.long e3), (.int i1), (.int (3 : Int32))] [] X3 cx L_41 (hw.get 0 rfl) (hw.get 1 rfl) (hw.get 2 rfl) (hw.get 3 rfl) (by decide) (con_H3 K.l K.Z a0 hw e3 i1 (3 : Int32) h0 K.n0 X3.ge) (lenOf pd_1 rfl) rfl rfl (by decide) (leb rfl) (by decide) (by decide) (fun T4 h4 v4 X4 q4 => ?_) (fun _ _ q => Nat.le_of_eq (congrArg Array.size q.1))
  obtain ⟨rfl, rfl⟩ := q4
  refine r_lstore (fun zz => #[.val (.int i0), .val (.int i1), .val (.int i2), .val (.int i3), .val (.int n7), .val (.long e0), .second, .val (.long e1), .second, .val (.long e2), .second, .val (.long e3), .second, .val (.long zz), .second, .unset, .unset, .unset, .unset, .unset, .unset, .unset]) X4 cx L_44 (fun _ => rfl) (fun e4 e_e4 => ?_)
  refine r_lload X4 cx L_46 rfl ?_
  refine r_iloadN X4 cx L_48 rfl ?_
  refine r_iconst (4) X4 cx L_49 rfl ?_
  refine r_static [(.long e4), (.int i1), (.int (4 : Int32))] [] X4 cx L_50 (hw.get 0 rfl) (hw.get 1 rfl) (hw.get 2 rfl) (hw.get 3 rfl) (by decide) (con_H3 K.l K.Z a0 hw e4 i1 (4 : Int32) h0 K.n0 X4.ge) (lenOf pd_1 rfl) rfl rfl (by decide) (leb rfl) (by decide) (by decide) (fun T5 h5 v5 X5 q5 => ?_) (fun _ _ q => Nat.le_of_eq (congrArg Array.size q.1))
  obtain ⟨rfl, rfl⟩ := q5
  refine r_lstore (fun zz => #[.val (.int i0), .val (.int i1), .val (.int i2), .val (.int i3), .val (.int n7), .val (.long e0), .second, .val (.long e1), .second, .val (.long e2), .second, .val (.long e3), .second, .val (.long e4), .second, .val (.long zz), .second, .unset, .unset, .unset, .unset, .unset]) X5 cx L_53 (fun _ => rfl) (fun e5 e_e5 => ?_)
  refine r_lload X5 cx L_55 rfl ?_
  refine r_iloadN X5 cx L_57 rfl ?_
  refine r_iconst (5) X5 cx L_58 rfl ?_
  refine r_static [(.long e5), (.int i1), (.int (5 : Int32))] [] X5 cx L_59 (hw.get 0 rfl) (hw.get 1 rfl) (hw.get 2 rfl) (hw.get 3 rfl) (by decide) (con_H3 K.l K.Z a0 hw e5 i1 (5 : Int32) h0 K.n0 X5.ge) (lenOf pd_1 rfl) rfl rfl (by decide) (leb rfl) (by decide) (by decide) (fun T6 h6 v6 X6 q6 => ?_) (fun _ _ q => Nat.le_of_eq (congrArg Array.size q.1))
  obtain ⟨rfl, rfl⟩ := q6
  refine r_lstore (fun zz => #[.val (.int i0), .val (.int i1), .val (.int i2), .val (.int i3), .val (.int n7), .val (.long e0), .second, .val (.long e1), .second, .val (.long e2), .second, .val (.long e3), .second, .val (.long e4), .second, .val (.long e5), .second, .val (.long zz), .second, .unset, .unset, .unset]) X6 cx L_62 (fun _ => rfl) (fun e6 e_e6 => ?_)
  have kj107 : (∀ (vl : Int32) (s20 : Slot) (s21 : Slot) (T' : State), Sd K T' h0 0 0 → (∀ r : Addr, storeLocals #[.val (.int i0), .val (.int i1), .val (.int i2), .val (.int i3), .val (.int n7), .val (.long e0), .second, .val (.long e1), .second, .val (.long e2), .second, .val (.long e3), .second, .val (.long e4), .second, .val (.long e5), .second, .val (.long e6), .second, .val (.int vl), s20, s21] 20 (.ref r) = some #[.val (.int i0), .val (.int i1), .val (.int i2), .val (.int i3), .val (.int n7), .val (.long e0), .second, .val (.long e1), .second, .val (.long e2), .second, .val (.long e3), .second, .val (.long e4), .second, .val (.long e5), .second, .val (.long e6), .second, .val (.int vl), .val (.ref r), .unset]) → Run K (fun v _ => v = some (.int 1)) T' (mkF K.m 107 #[.val (.int i0), .val (.int i1), .val (.int i2), .val (.int i3), .val (.int n7), .val (.long e0), .second, .val (.long e1), .second, .val (.long e2), .second, .val (.long e3), .second, .val (.long e4), .second, .val (.long e5), .second, .val (.long e6), .second, .val (.int vl), s20, s21] [])) → Run K (fun v _ => v = some (.int 1)) T6 (mkF K.m 64 #[.val (.int i0), .val (.int i1), .val (.int i2), .val (.int i3), .val (.int n7), .val (.long e0), .second, .val (.long e1), .second, .val (.long e2), .second, .val (.long e3), .second, .val (.long e4), .second, .val (.long e5), .second, .val (.long e6), .second, .unset, .unset, .unset] []) := by
    intro kj
    refine r_iloadN X6 cx L_64 rfl ?_
    refine r_iconst (3) X6 cx L_65 rfl ?_
    refine r_iushr X6 cx L_66 ?_
    refine r_iconst (1) X6 cx L_67 rfl ?_
    refine r_iand X6 cx L_68 ?_
    refine r_ifeq X6 cx L_69 (fun c69 => ?_) (fun c69 => ?_)
    · refine r_iloadN X6 cx L_78 rfl ?_
      refine r_i2l X6 cx L_79 ?_
      refine r_iloadN X6 cx L_80 rfl ?_
      refine r_bipush (31) X6 cx L_81 rfl ?_
      refine r_iand X6 cx L_83 ?_
      refine r_iconst (4) X6 cx L_84 rfl ?_
      refine r_isub X6 cx L_85 ?_
      refine r_i2l X6 cx L_86 ?_
      refine r_ladd X6 cx L_87 ?_
      refine r_lstore (fun zz => #[.val (.int i0), .val (.int i1), .val (.int i2), .val (.int i3), .val (.int n7), .val (.long e0), .second, .val (.long e1), .second, .val (.long e2), .second, .val (.long e3), .second, .val (.long e4), .second, .val (.long e5), .second, .val (.long e6), .second, .unset, .val (.long zz), .second]) X6 cx L_88 (fun _ => rfl) (fun j7 e_j7 => ?_)
      refine r_ldc2 X6 cx L_90 (hw.get 9 rfl) ?_
      refine r_ldc2 X6 cx L_93 (hw.get 4 rfl) ?_
      refine r_lload X6 cx L_96 rfl ?_
      refine r_static [(.long (2147483647 : Int64)), (.long j7)] [(.long (-2147483648 : Int64))] X6 cx L_98 (hw.get 5 rfl) (hw.get 6 rfl) (hw.get 7 rfl) (hw.get 8 rfl) (by decide) (con_J29m70 K.l K.Z a0 hw (2147483647 : Int64) j7 h0 K.n0 X6.ge) (lenOf pd_0 rfl) rfl rfl (by decide) (leb rfl) (by decide) (by decide) (fun T8 h8 v8 X8 q8 => ?_) (fun _ _ q => Nat.le_of_eq (congrArg Array.size q.1))
      obtain ⟨rfl, rfl⟩ := q8
      refine r_static [(.long (-2147483648 : Int64)), (.long (own_min (2147483647 : Int64) j7))] [] X8 cx L_101 (hw.get 10 rfl) (hw.get 11 rfl) (hw.get 7 rfl) (hw.get 12 rfl) (by decide) (con_J29m66 K.l K.Z a0 hw (-2147483648 : Int64) (own_min (2147483647 : Int64) j7) h0 K.n0 X8.ge) (lenOf pd_0 rfl) rfl rfl (by decide) (leb rfl) (by decide) (by decide) (fun T9 h9 v9 X9 q9 => ?_) (fun _ _ q => Nat.le_of_eq (congrArg Array.size q.1))
      obtain ⟨rfl, rfl⟩ := q9
      refine r_l2i X9 cx L_104 ?_
      refine r_istore (fun zz => #[.val (.int i0), .val (.int i1), .val (.int i2), .val (.int i3), .val (.int n7), .val (.long e0), .second, .val (.long e1), .second, .val (.long e2), .second, .val (.long e3), .second, .val (.long e4), .second, .val (.long e5), .second, .val (.long e6), .second, .val (.int zz), .val (.long j7), .second]) X9 cx L_105 (fun _ => rfl) (fun i10 e_i10 => ?_)
      exact kj _ _ _ _ X9 (fun _ => rfl) 
    · refine r_iloadN X6 cx L_72 rfl ?_
      refine r_istore (fun zz => #[.val (.int i0), .val (.int i1), .val (.int i2), .val (.int i3), .val (.int n7), .val (.long e0), .second, .val (.long e1), .second, .val (.long e2), .second, .val (.long e3), .second, .val (.long e4), .second, .val (.long e5), .second, .val (.long e6), .second, .val (.int zz), .unset, .unset]) X6 cx L_73 (fun _ => rfl) (fun i7 e_i7 => ?_)
      refine r_goto X6 cx L_75 ?_
      exact kj _ _ _ _ X6 (fun _ => rfl) 
  refine kj107 (fun vl s20 s21 Tj107 Xj107 hst  => ?_)
  have q0 := own_in0 i0
  rw [← e_e0] at q0
  have q1 := own_nx q0 i1 0
  rw [← e_e1] at q1
  obtain ⟨q1, r1⟩ := q1
  have q2 := own_nx q1 i1 1
  rw [← e_e2] at q2
  obtain ⟨q2, r2⟩ := q2
  have q3 := own_nx q2 i1 2
  rw [← e_e3] at q3
  obtain ⟨q3, r3⟩ := q3
  have q4 := own_nx q3 i1 3
  rw [← e_e4] at q4
  obtain ⟨q4, r4⟩ := q4
  have q5 := own_nx q4 i1 4
  rw [← e_e5] at q5
  obtain ⟨q5, r5⟩ := q5
  have q6 := own_nx q5 i1 5
  rw [← e_e6] at q6
  obtain ⟨q6, r6⟩ := q6
  clear kj107
  rcases own_m7 i2 with m7 | m7 | m7 | m7 | m7 | m7 | m7 | m7
  · obtain rfl : n7 = (0 : Int32) := e_n7.trans m7
    refine r_iload Xj107 cx L_107 rfl ?_
    refine r_newarray Xj107 cx L_109 (hw.get 13 rfl) (0) 0 rfl (Nat.le_refl _) (by decide) (by decide) (by decide) (fun T57 h57 arr ea57 g_arr X57 Ex57 A57 => ?_)
    have A_arr : AI .int K.Z h57 arr [] := AI.new A57
    refine r_astore #[.val (.int i0), .val (.int i1), .val (.int i2), .val (.int i3), .val (.int (0 : Int32)), .val (.long e0), .second, .val (.long e1), .second, .val (.long e2), .second, .val (.long e3), .second, .val (.long e4), .second, .val (.long e5), .second, .val (.long e6), .second, .val (.int vl), .val (.ref arr), .unset] X57 cx L_111 (hst _) ?_
    refine r_iload X57 cx L_113 rfl ?_
    refine r_ifle X57 cx L_115 (fun _ => ?_) (fun c => absurd c (by decide))
    refine r_iload X57 cx L_125 rfl ?_
    refine r_iconst (1) X57 cx L_127 rfl ?_
    refine r_icmple X57 cx L_128 (fun _ => ?_) (fun c => absurd c (by decide))
    refine r_iload X57 cx L_138 rfl ?_
    refine r_iconst (2) X57 cx L_140 rfl ?_
    refine r_icmple X57 cx L_141 (fun _ => ?_) (fun c => absurd c (by decide))
    refine r_iload X57 cx L_151 rfl ?_
    refine r_iconst (3) X57 cx L_153 rfl ?_
    refine r_icmple X57 cx L_154 (fun _ => ?_) (fun c => absurd c (by decide))
    refine r_iload X57 cx L_164 rfl ?_
    refine r_iconst (4) X57 cx L_166 rfl ?_
    refine r_icmple X57 cx L_167 (fun _ => ?_) (fun c => absurd c (by decide))
    refine r_iload X57 cx L_177 rfl ?_
    refine r_iconst (5) X57 cx L_179 rfl ?_
    refine r_icmple X57 cx L_180 (fun _ => ?_) (fun c => absurd c (by decide))
    refine r_iload X57 cx L_190 rfl ?_
    refine r_bipush (6) X57 cx L_192 rfl ?_
    refine r_icmple X57 cx L_194 (fun _ => ?_) (fun c => absurd c (by decide))
    refine r_iload X57 cx L_205 rfl ?_
    refine r_ifle X57 cx L_207 (fun _ => ?_) (fun c => absurd c (by decide))
    refine r_iconst (0) X57 cx L_214 rfl ?_
    refine r_lload X57 cx L_215 rfl ?_
    refine r_iload X57 cx L_217 rfl ?_
    refine r_static [(.int (0 : Int32)), (.long e0), (.int vl)] [] X57 cx L_219 (hw.get 14 rfl) (hw.get 15 rfl) (hw.get 2 rfl) (hw.get 16 rfl) (by decide) (con_H4 K.l K.Z a0 hw (0 : Int32) e0 vl h57 K.n0 X57.ge) (lenOf pd_2 rfl) rfl rfl (by decide) (leb rfl) (by decide) (by decide) (fun T58 h58 v58 X58 q58 => ?_) (fun _ _ q => Nat.le_of_eq (congrArg Array.size q.1))
    obtain ⟨rfl, rfl⟩ := q58
    refine r_iload X58 cx L_222 rfl ?_
    refine r_iconst (1) X58 cx L_224 rfl ?_
    refine r_icmple X58 cx L_225 (fun _ => ?_) (fun c => absurd c (by decide))
    refine r_iconst (0) X58 cx L_232 rfl ?_
    refine r_lload X58 cx L_233 rfl ?_
    refine r_iload X58 cx L_235 rfl ?_
    refine r_static [(.int (0 : Int32)), (.long e1), (.int vl)] [(.int (own_below (0 : Int32) e0 vl))] X58 cx L_237 (hw.get 14 rfl) (hw.get 15 rfl) (hw.get 2 rfl) (hw.get 16 rfl) (by decide) (con_H4 K.l K.Z a0 hw (0 : Int32) e1 vl h57 K.n0 X58.ge) (lenOf pd_2 rfl) rfl rfl (by decide) (leb rfl) (by decide) (by decide) (fun T59 h59 v59 X59 q59 => ?_) (fun _ _ q => Nat.le_of_eq (congrArg Array.size q.1))
    obtain ⟨rfl, rfl⟩ := q59
    refine r_iadd X59 cx L_240 ?_
    refine r_iload X59 cx L_241 rfl ?_
    refine r_iconst (2) X59 cx L_243 rfl ?_
    refine r_icmple X59 cx L_244 (fun _ => ?_) (fun c => absurd c (by decide))
    refine r_iconst (0) X59 cx L_251 rfl ?_
    refine r_lload X59 cx L_252 rfl ?_
    refine r_iload X59 cx L_254 rfl ?_
    refine r_static [(.int (0 : Int32)), (.long e2), (.int vl)] [(.int ((own_below (0 : Int32) e0 vl) + (own_below (0 : Int32) e1 vl)))] X59 cx L_256 (hw.get 14 rfl) (hw.get 15 rfl) (hw.get 2 rfl) (hw.get 16 rfl) (by decide) (con_H4 K.l K.Z a0 hw (0 : Int32) e2 vl h57 K.n0 X59.ge) (lenOf pd_2 rfl) rfl rfl (by decide) (leb rfl) (by decide) (by decide) (fun T60 h60 v60 X60 q60 => ?_) (fun _ _ q => Nat.le_of_eq (congrArg Array.size q.1))
    obtain ⟨rfl, rfl⟩ := q60
    refine r_iadd X60 cx L_259 ?_
    refine r_iload X60 cx L_260 rfl ?_
    refine r_iconst (3) X60 cx L_262 rfl ?_
    refine r_icmple X60 cx L_263 (fun _ => ?_) (fun c => absurd c (by decide))
    refine r_iconst (0) X60 cx L_270 rfl ?_
    refine r_lload X60 cx L_271 rfl ?_
    refine r_iload X60 cx L_273 rfl ?_
    refine r_static [(.int (0 : Int32)), (.long e3), (.int vl)] [(.int (((own_below (0 : Int32) e0 vl) + (own_below (0 : Int32) e1 vl)) + (own_below (0 : Int32) e2 vl)))] X60 cx L_275 (hw.get 14 rfl) (hw.get 15 rfl) (hw.get 2 rfl) (hw.get 16 rfl) (by decide) (con_H4 K.l K.Z a0 hw (0 : Int32) e3 vl h57 K.n0 X60.ge) (lenOf pd_2 rfl) rfl rfl (by decide) (leb rfl) (by decide) (by decide) (fun T61 h61 v61 X61 q61 => ?_) (fun _ _ q => Nat.le_of_eq (congrArg Array.size q.1))
    obtain ⟨rfl, rfl⟩ := q61
    refine r_iadd X61 cx L_278 ?_
    refine r_iload X61 cx L_279 rfl ?_
    refine r_iconst (4) X61 cx L_281 rfl ?_
    refine r_icmple X61 cx L_282 (fun _ => ?_) (fun c => absurd c (by decide))
    refine r_iconst (0) X61 cx L_289 rfl ?_
    refine r_lload X61 cx L_290 rfl ?_
    refine r_iload X61 cx L_292 rfl ?_
    refine r_static [(.int (0 : Int32)), (.long e4), (.int vl)] [(.int ((((own_below (0 : Int32) e0 vl) + (own_below (0 : Int32) e1 vl)) + (own_below (0 : Int32) e2 vl)) + (own_below (0 : Int32) e3 vl)))] X61 cx L_294 (hw.get 14 rfl) (hw.get 15 rfl) (hw.get 2 rfl) (hw.get 16 rfl) (by decide) (con_H4 K.l K.Z a0 hw (0 : Int32) e4 vl h57 K.n0 X61.ge) (lenOf pd_2 rfl) rfl rfl (by decide) (leb rfl) (by decide) (by decide) (fun T62 h62 v62 X62 q62 => ?_) (fun _ _ q => Nat.le_of_eq (congrArg Array.size q.1))
    obtain ⟨rfl, rfl⟩ := q62
    refine r_iadd X62 cx L_297 ?_
    refine r_iload X62 cx L_298 rfl ?_
    refine r_iconst (5) X62 cx L_300 rfl ?_
    refine r_icmple X62 cx L_301 (fun _ => ?_) (fun c => absurd c (by decide))
    refine r_iconst (0) X62 cx L_308 rfl ?_
    refine r_lload X62 cx L_309 rfl ?_
    refine r_iload X62 cx L_311 rfl ?_
    refine r_static [(.int (0 : Int32)), (.long e5), (.int vl)] [(.int (((((own_below (0 : Int32) e0 vl) + (own_below (0 : Int32) e1 vl)) + (own_below (0 : Int32) e2 vl)) + (own_below (0 : Int32) e3 vl)) + (own_below (0 : Int32) e4 vl)))] X62 cx L_313 (hw.get 14 rfl) (hw.get 15 rfl) (hw.get 2 rfl) (hw.get 16 rfl) (by decide) (con_H4 K.l K.Z a0 hw (0 : Int32) e5 vl h57 K.n0 X62.ge) (lenOf pd_2 rfl) rfl rfl (by decide) (leb rfl) (by decide) (by decide) (fun T63 h63 v63 X63 q63 => ?_) (fun _ _ q => Nat.le_of_eq (congrArg Array.size q.1))
    obtain ⟨rfl, rfl⟩ := q63
    refine r_iadd X63 cx L_316 ?_
    refine r_iload X63 cx L_317 rfl ?_
    refine r_bipush (6) X63 cx L_319 rfl ?_
    refine r_icmple X63 cx L_321 (fun _ => ?_) (fun c => absurd c (by decide))
    refine r_iconst (0) X63 cx L_328 rfl ?_
    refine r_lload X63 cx L_329 rfl ?_
    refine r_iload X63 cx L_331 rfl ?_
    refine r_static [(.int (0 : Int32)), (.long e6), (.int vl)] [(.int ((((((own_below (0 : Int32) e0 vl) + (own_below (0 : Int32) e1 vl)) + (own_below (0 : Int32) e2 vl)) + (own_below (0 : Int32) e3 vl)) + (own_below (0 : Int32) e4 vl)) + (own_below (0 : Int32) e5 vl)))] X63 cx L_333 (hw.get 14 rfl) (hw.get 15 rfl) (hw.get 2 rfl) (hw.get 16 rfl) (by decide) (con_H4 K.l K.Z a0 hw (0 : Int32) e6 vl h57 K.n0 X63.ge) (lenOf pd_2 rfl) rfl rfl (by decide) (leb rfl) (by decide) (by decide) (fun T64 h64 v64 X64 q64 => ?_) (fun _ _ q => Nat.le_of_eq (congrArg Array.size q.1))
    obtain ⟨rfl, rfl⟩ := q64
    refine r_iadd X64 cx L_336 ?_
    refine r_istore (fun zz => #[.val (.int i0), .val (.int i1), .val (.int i2), .val (.int i3), .val (.int (0 : Int32)), .val (.long e0), .second, .val (.long e1), .second, .val (.long e2), .second, .val (.long e3), .second, .val (.long e4), .second, .val (.long e5), .second, .val (.long e6), .second, .val (.int vl), .val (.ref arr), .val (.int zz)]) X64 cx L_337 (fun _ => rfl) (fun ex e_ex => ?_)
    refine r_aload X64 cx L_339 rfl ?_
    refine r_iload X64 cx L_341 rfl ?_
    have hasc : own_asc [] := by
      simp only [own_asc, List.mem_cons, List.not_mem_nil, or_false, forall_eq_or_imp, forall_eq, and_true, false_imp_iff, implies_true]
    refine r_static [(.ref arr), (.int vl)] [] X64 cx L_343 (hw.get 17 rfl) (hw.get 18 rfl) (hw.get 19 rfl) (hw.get 20 rfl) (by decide) (con_P19m2 K.l K.Z a0 hw arr vl h57 K.n0 X64.ge [] A_arr (ltb rfl) (own_asc_at _ hasc)) (lenOf pd_3 rfl) rfl rfl (by decide) (leb rfl) (by decide) (by decide) (fun T65 h65 v65 X65 q65 => ?_) (fun _ _ q => Nat.le_of_eq (congrArg Array.size q.1))
    obtain ⟨rfl, rfl⟩ := q65
    refine r_iload X65 cx L_346 rfl ?_
    refine r_icmpne X65 cx L_348 (fun c348 => ?_) (fun c348 => ?_)
    · exfalso
      apply c348
      rw [e_ex]
      simp only [own_cc, own_c0, own_b0]
      simp only [Int32.add_zero, Int32.zero_add, Int32.add_assoc]
    · refine r_iconst (1) X65 cx L_351 rfl ?_
      refine r_goto X65 cx L_352 ?_
      refine r_zreturn X65 cx L_356 (by decide) (by decide) ?_
      rfl
  · obtain rfl : n7 = (1 : Int32) := e_n7.trans m7
    refine r_iload Xj107 cx L_107 rfl ?_
    refine r_newarray Xj107 cx L_109 (hw.get 13 rfl) (1) 1 rfl (Nat.le_refl _) (by decide) (by decide) (by decide) (fun T57 h57 arr ea57 g_arr X57 Ex57 A57 => ?_)
    have A_arr : AI .int K.Z h57 arr [0] := AI.new A57
    refine r_astore #[.val (.int i0), .val (.int i1), .val (.int i2), .val (.int i3), .val (.int (1 : Int32)), .val (.long e0), .second, .val (.long e1), .second, .val (.long e2), .second, .val (.long e3), .second, .val (.long e4), .second, .val (.long e5), .second, .val (.long e6), .second, .val (.int vl), .val (.ref arr), .unset] X57 cx L_111 (hst _) ?_
    refine r_iload X57 cx L_113 rfl ?_
    refine r_ifle X57 cx L_115 (fun c => absurd c (by decide)) (fun _ => ?_)
    refine r_aload X57 cx L_118 rfl ?_
    refine r_iconst (0) X57 cx L_120 rfl ?_
    refine r_lload X57 cx L_121 rfl ?_
    refine r_l2i X57 cx L_123 ?_
    refine r_iastore X57 cx L_124 A_arr (0) rfl (ltb rfl) g_arr (fun T58 h58 X58 W58 N58 => ?_)
    have A_arr : AI .int K.Z h58 arr [(Int64.toInt32 e0)] := N58
    refine r_iload X58 cx L_125 rfl ?_
    refine r_iconst (1) X58 cx L_127 rfl ?_
    refine r_icmple X58 cx L_128 (fun _ => ?_) (fun c => absurd c (by decide))
    refine r_iload X58 cx L_138 rfl ?_
    refine r_iconst (2) X58 cx L_140 rfl ?_
    refine r_icmple X58 cx L_141 (fun _ => ?_) (fun c => absurd c (by decide))
    refine r_iload X58 cx L_151 rfl ?_
    refine r_iconst (3) X58 cx L_153 rfl ?_
    refine r_icmple X58 cx L_154 (fun _ => ?_) (fun c => absurd c (by decide))
    refine r_iload X58 cx L_164 rfl ?_
    refine r_iconst (4) X58 cx L_166 rfl ?_
    refine r_icmple X58 cx L_167 (fun _ => ?_) (fun c => absurd c (by decide))
    refine r_iload X58 cx L_177 rfl ?_
    refine r_iconst (5) X58 cx L_179 rfl ?_
    refine r_icmple X58 cx L_180 (fun _ => ?_) (fun c => absurd c (by decide))
    refine r_iload X58 cx L_190 rfl ?_
    refine r_bipush (6) X58 cx L_192 rfl ?_
    refine r_icmple X58 cx L_194 (fun _ => ?_) (fun c => absurd c (by decide))
    refine r_iload X58 cx L_205 rfl ?_
    refine r_ifle X58 cx L_207 (fun c => absurd c (by decide)) (fun _ => ?_)
    refine r_iconst (1) X58 cx L_210 rfl ?_
    refine r_goto X58 cx L_211 ?_
    refine r_lload X58 cx L_215 rfl ?_
    refine r_iload X58 cx L_217 rfl ?_
    refine r_static [(.int (1 : Int32)), (.long e0), (.int vl)] [] X58 cx L_219 (hw.get 14 rfl) (hw.get 15 rfl) (hw.get 2 rfl) (hw.get 16 rfl) (by decide) (con_H4 K.l K.Z a0 hw (1 : Int32) e0 vl h58 K.n0 X58.ge) (lenOf pd_2 rfl) rfl rfl (by decide) (leb rfl) (by decide) (by decide) (fun T59 h59 v59 X59 q59 => ?_) (fun _ _ q => Nat.le_of_eq (congrArg Array.size q.1))
    obtain ⟨rfl, rfl⟩ := q59
    refine r_iload X59 cx L_222 rfl ?_
    refine r_iconst (1) X59 cx L_224 rfl ?_
    refine r_icmple X59 cx L_225 (fun _ => ?_) (fun c => absurd c (by decide))
    refine r_iconst (0) X59 cx L_232 rfl ?_
    refine r_lload X59 cx L_233 rfl ?_
    refine r_iload X59 cx L_235 rfl ?_
    refine r_static [(.int (0 : Int32)), (.long e1), (.int vl)] [(.int (own_below (1 : Int32) e0 vl))] X59 cx L_237 (hw.get 14 rfl) (hw.get 15 rfl) (hw.get 2 rfl) (hw.get 16 rfl) (by decide) (con_H4 K.l K.Z a0 hw (0 : Int32) e1 vl h58 K.n0 X59.ge) (lenOf pd_2 rfl) rfl rfl (by decide) (leb rfl) (by decide) (by decide) (fun T60 h60 v60 X60 q60 => ?_) (fun _ _ q => Nat.le_of_eq (congrArg Array.size q.1))
    obtain ⟨rfl, rfl⟩ := q60
    refine r_iadd X60 cx L_240 ?_
    refine r_iload X60 cx L_241 rfl ?_
    refine r_iconst (2) X60 cx L_243 rfl ?_
    refine r_icmple X60 cx L_244 (fun _ => ?_) (fun c => absurd c (by decide))
    refine r_iconst (0) X60 cx L_251 rfl ?_
    refine r_lload X60 cx L_252 rfl ?_
    refine r_iload X60 cx L_254 rfl ?_
    refine r_static [(.int (0 : Int32)), (.long e2), (.int vl)] [(.int ((own_below (1 : Int32) e0 vl) + (own_below (0 : Int32) e1 vl)))] X60 cx L_256 (hw.get 14 rfl) (hw.get 15 rfl) (hw.get 2 rfl) (hw.get 16 rfl) (by decide) (con_H4 K.l K.Z a0 hw (0 : Int32) e2 vl h58 K.n0 X60.ge) (lenOf pd_2 rfl) rfl rfl (by decide) (leb rfl) (by decide) (by decide) (fun T61 h61 v61 X61 q61 => ?_) (fun _ _ q => Nat.le_of_eq (congrArg Array.size q.1))
    obtain ⟨rfl, rfl⟩ := q61
    refine r_iadd X61 cx L_259 ?_
    refine r_iload X61 cx L_260 rfl ?_
    refine r_iconst (3) X61 cx L_262 rfl ?_
    refine r_icmple X61 cx L_263 (fun _ => ?_) (fun c => absurd c (by decide))
    refine r_iconst (0) X61 cx L_270 rfl ?_
    refine r_lload X61 cx L_271 rfl ?_
    refine r_iload X61 cx L_273 rfl ?_
    refine r_static [(.int (0 : Int32)), (.long e3), (.int vl)] [(.int (((own_below (1 : Int32) e0 vl) + (own_below (0 : Int32) e1 vl)) + (own_below (0 : Int32) e2 vl)))] X61 cx L_275 (hw.get 14 rfl) (hw.get 15 rfl) (hw.get 2 rfl) (hw.get 16 rfl) (by decide) (con_H4 K.l K.Z a0 hw (0 : Int32) e3 vl h58 K.n0 X61.ge) (lenOf pd_2 rfl) rfl rfl (by decide) (leb rfl) (by decide) (by decide) (fun T62 h62 v62 X62 q62 => ?_) (fun _ _ q => Nat.le_of_eq (congrArg Array.size q.1))
    obtain ⟨rfl, rfl⟩ := q62
    refine r_iadd X62 cx L_278 ?_
    refine r_iload X62 cx L_279 rfl ?_
    refine r_iconst (4) X62 cx L_281 rfl ?_
    refine r_icmple X62 cx L_282 (fun _ => ?_) (fun c => absurd c (by decide))
    refine r_iconst (0) X62 cx L_289 rfl ?_
    refine r_lload X62 cx L_290 rfl ?_
    refine r_iload X62 cx L_292 rfl ?_
    refine r_static [(.int (0 : Int32)), (.long e4), (.int vl)] [(.int ((((own_below (1 : Int32) e0 vl) + (own_below (0 : Int32) e1 vl)) + (own_below (0 : Int32) e2 vl)) + (own_below (0 : Int32) e3 vl)))] X62 cx L_294 (hw.get 14 rfl) (hw.get 15 rfl) (hw.get 2 rfl) (hw.get 16 rfl) (by decide) (con_H4 K.l K.Z a0 hw (0 : Int32) e4 vl h58 K.n0 X62.ge) (lenOf pd_2 rfl) rfl rfl (by decide) (leb rfl) (by decide) (by decide) (fun T63 h63 v63 X63 q63 => ?_) (fun _ _ q => Nat.le_of_eq (congrArg Array.size q.1))
    obtain ⟨rfl, rfl⟩ := q63
    refine r_iadd X63 cx L_297 ?_
    refine r_iload X63 cx L_298 rfl ?_
    refine r_iconst (5) X63 cx L_300 rfl ?_
    refine r_icmple X63 cx L_301 (fun _ => ?_) (fun c => absurd c (by decide))
    refine r_iconst (0) X63 cx L_308 rfl ?_
    refine r_lload X63 cx L_309 rfl ?_
    refine r_iload X63 cx L_311 rfl ?_
    refine r_static [(.int (0 : Int32)), (.long e5), (.int vl)] [(.int (((((own_below (1 : Int32) e0 vl) + (own_below (0 : Int32) e1 vl)) + (own_below (0 : Int32) e2 vl)) + (own_below (0 : Int32) e3 vl)) + (own_below (0 : Int32) e4 vl)))] X63 cx L_313 (hw.get 14 rfl) (hw.get 15 rfl) (hw.get 2 rfl) (hw.get 16 rfl) (by decide) (con_H4 K.l K.Z a0 hw (0 : Int32) e5 vl h58 K.n0 X63.ge) (lenOf pd_2 rfl) rfl rfl (by decide) (leb rfl) (by decide) (by decide) (fun T64 h64 v64 X64 q64 => ?_) (fun _ _ q => Nat.le_of_eq (congrArg Array.size q.1))
    obtain ⟨rfl, rfl⟩ := q64
    refine r_iadd X64 cx L_316 ?_
    refine r_iload X64 cx L_317 rfl ?_
    refine r_bipush (6) X64 cx L_319 rfl ?_
    refine r_icmple X64 cx L_321 (fun _ => ?_) (fun c => absurd c (by decide))
    refine r_iconst (0) X64 cx L_328 rfl ?_
    refine r_lload X64 cx L_329 rfl ?_
    refine r_iload X64 cx L_331 rfl ?_
    refine r_static [(.int (0 : Int32)), (.long e6), (.int vl)] [(.int ((((((own_below (1 : Int32) e0 vl) + (own_below (0 : Int32) e1 vl)) + (own_below (0 : Int32) e2 vl)) + (own_below (0 : Int32) e3 vl)) + (own_below (0 : Int32) e4 vl)) + (own_below (0 : Int32) e5 vl)))] X64 cx L_333 (hw.get 14 rfl) (hw.get 15 rfl) (hw.get 2 rfl) (hw.get 16 rfl) (by decide) (con_H4 K.l K.Z a0 hw (0 : Int32) e6 vl h58 K.n0 X64.ge) (lenOf pd_2 rfl) rfl rfl (by decide) (leb rfl) (by decide) (by decide) (fun T65 h65 v65 X65 q65 => ?_) (fun _ _ q => Nat.le_of_eq (congrArg Array.size q.1))
    obtain ⟨rfl, rfl⟩ := q65
    refine r_iadd X65 cx L_336 ?_
    refine r_istore (fun zz => #[.val (.int i0), .val (.int i1), .val (.int i2), .val (.int i3), .val (.int (1 : Int32)), .val (.long e0), .second, .val (.long e1), .second, .val (.long e2), .second, .val (.long e3), .second, .val (.long e4), .second, .val (.long e5), .second, .val (.long e6), .second, .val (.int vl), .val (.ref arr), .val (.int zz)]) X65 cx L_337 (fun _ => rfl) (fun ex e_ex => ?_)
    refine r_aload X65 cx L_339 rfl ?_
    refine r_iload X65 cx L_341 rfl ?_
    have hasc : own_asc [(Int64.toInt32 e0)] := by
      simp only [own_asc, List.mem_cons, List.not_mem_nil, or_false, forall_eq_or_imp, forall_eq, and_true, false_imp_iff, implies_true]
    refine r_static [(.ref arr), (.int vl)] [] X65 cx L_343 (hw.get 17 rfl) (hw.get 18 rfl) (hw.get 19 rfl) (hw.get 20 rfl) (by decide) (con_P19m2 K.l K.Z a0 hw arr vl h58 K.n0 X65.ge [(Int64.toInt32 e0)] A_arr (ltb rfl) (own_asc_at _ hasc)) (lenOf pd_3 rfl) rfl rfl (by decide) (leb rfl) (by decide) (by decide) (fun T66 h66 v66 X66 q66 => ?_) (fun _ _ q => Nat.le_of_eq (congrArg Array.size q.1))
    obtain ⟨rfl, rfl⟩ := q66
    refine r_iload X66 cx L_346 rfl ?_
    refine r_icmpne X66 cx L_348 (fun c348 => ?_) (fun c348 => ?_)
    · exfalso
      apply c348
      rw [e_ex]
      simp only [own_cc, own_c0, own_b1 q0, own_b0]
      simp only [Int32.add_zero, Int32.zero_add, Int32.add_assoc]
    · refine r_iconst (1) X66 cx L_351 rfl ?_
      refine r_goto X66 cx L_352 ?_
      refine r_zreturn X66 cx L_356 (by decide) (by decide) ?_
      rfl
  · obtain rfl : n7 = (2 : Int32) := e_n7.trans m7
    refine r_iload Xj107 cx L_107 rfl ?_
    refine r_newarray Xj107 cx L_109 (hw.get 13 rfl) (2) 2 rfl (Nat.le_refl _) (by decide) (by decide) (by decide) (fun T57 h57 arr ea57 g_arr X57 Ex57 A57 => ?_)
    have A_arr : AI .int K.Z h57 arr [0, 0] := AI.new A57
    refine r_astore #[.val (.int i0), .val (.int i1), .val (.int i2), .val (.int i3), .val (.int (2 : Int32)), .val (.long e0), .second, .val (.long e1), .second, .val (.long e2), .second, .val (.long e3), .second, .val (.long e4), .second, .val (.long e5), .second, .val (.long e6), .second, .val (.int vl), .val (.ref arr), .unset] X57 cx L_111 (hst _) ?_
    refine r_iload X57 cx L_113 rfl ?_
    refine r_ifle X57 cx L_115 (fun c => absurd c (by decide)) (fun _ => ?_)
    refine r_aload X57 cx L_118 rfl ?_
    refine r_iconst (0) X57 cx L_120 rfl ?_
    refine r_lload X57 cx L_121 rfl ?_
    refine r_l2i X57 cx L_123 ?_
    refine r_iastore X57 cx L_124 A_arr (0) rfl (ltb rfl) g_arr (fun T58 h58 X58 W58 N58 => ?_)
    have A_arr : AI .int K.Z h58 arr [(Int64.toInt32 e0), 0] := N58
    refine r_iload X58 cx L_125 rfl ?_
    refine r_iconst (1) X58 cx L_127 rfl ?_
    refine r_icmple X58 cx L_128 (fun c => absurd c (by decide)) (fun _ => ?_)
    refine r_aload X58 cx L_131 rfl ?_
    refine r_iconst (1) X58 cx L_133 rfl ?_
    refine r_lload X58 cx L_134 rfl ?_
    refine r_l2i X58 cx L_136 ?_
    refine r_iastore X58 cx L_137 A_arr (1) rfl (ltb rfl) g_arr (fun T59 h59 X59 W59 N59 => ?_)
    have A_arr : AI .int K.Z h59 arr [(Int64.toInt32 e0), (Int64.toInt32 e1)] := N59
    refine r_iload X59 cx L_138 rfl ?_
    refine r_iconst (2) X59 cx L_140 rfl ?_
    refine r_icmple X59 cx L_141 (fun _ => ?_) (fun c => absurd c (by decide))
    refine r_iload X59 cx L_151 rfl ?_
    refine r_iconst (3) X59 cx L_153 rfl ?_
    refine r_icmple X59 cx L_154 (fun _ => ?_) (fun c => absurd c (by decide))
    refine r_iload X59 cx L_164 rfl ?_
    refine r_iconst (4) X59 cx L_166 rfl ?_
    refine r_icmple X59 cx L_167 (fun _ => ?_) (fun c => absurd c (by decide))
    refine r_iload X59 cx L_177 rfl ?_
    refine r_iconst (5) X59 cx L_179 rfl ?_
    refine r_icmple X59 cx L_180 (fun _ => ?_) (fun c => absurd c (by decide))
    refine r_iload X59 cx L_190 rfl ?_
    refine r_bipush (6) X59 cx L_192 rfl ?_
    refine r_icmple X59 cx L_194 (fun _ => ?_) (fun c => absurd c (by decide))
    refine r_iload X59 cx L_205 rfl ?_
    refine r_ifle X59 cx L_207 (fun c => absurd c (by decide)) (fun _ => ?_)
    refine r_iconst (1) X59 cx L_210 rfl ?_
    refine r_goto X59 cx L_211 ?_
    refine r_lload X59 cx L_215 rfl ?_
    refine r_iload X59 cx L_217 rfl ?_
    refine r_static [(.int (1 : Int32)), (.long e0), (.int vl)] [] X59 cx L_219 (hw.get 14 rfl) (hw.get 15 rfl) (hw.get 2 rfl) (hw.get 16 rfl) (by decide) (con_H4 K.l K.Z a0 hw (1 : Int32) e0 vl h59 K.n0 X59.ge) (lenOf pd_2 rfl) rfl rfl (by decide) (leb rfl) (by decide) (by decide) (fun T60 h60 v60 X60 q60 => ?_) (fun _ _ q => Nat.le_of_eq (congrArg Array.size q.1))
    obtain ⟨rfl, rfl⟩ := q60
    refine r_iload X60 cx L_222 rfl ?_
    refine r_iconst (1) X60 cx L_224 rfl ?_
    refine r_icmple X60 cx L_225 (fun c => absurd c (by decide)) (fun _ => ?_)
    refine r_iconst (1) X60 cx L_228 rfl ?_
    refine r_goto X60 cx L_229 ?_
    refine r_lload X60 cx L_233 rfl ?_
    refine r_iload X60 cx L_235 rfl ?_
    refine r_static [(.int (1 : Int32)), (.long e1), (.int vl)] [(.int (own_below (1 : Int32) e0 vl))] X60 cx L_237 (hw.get 14 rfl) (hw.get 15 rfl) (hw.get 2 rfl) (hw.get 16 rfl) (by decide) (con_H4 K.l K.Z a0 hw (1 : Int32) e1 vl h59 K.n0 X60.ge) (lenOf pd_2 rfl) rfl rfl (by decide) (leb rfl) (by decide) (by decide) (fun T61 h61 v61 X61 q61 => ?_) (fun _ _ q => Nat.le_of_eq (congrArg Array.size q.1))
    obtain ⟨rfl, rfl⟩ := q61
    refine r_iadd X61 cx L_240 ?_
    refine r_iload X61 cx L_241 rfl ?_
    refine r_iconst (2) X61 cx L_243 rfl ?_
    refine r_icmple X61 cx L_244 (fun _ => ?_) (fun c => absurd c (by decide))
    refine r_iconst (0) X61 cx L_251 rfl ?_
    refine r_lload X61 cx L_252 rfl ?_
    refine r_iload X61 cx L_254 rfl ?_
    refine r_static [(.int (0 : Int32)), (.long e2), (.int vl)] [(.int ((own_below (1 : Int32) e0 vl) + (own_below (1 : Int32) e1 vl)))] X61 cx L_256 (hw.get 14 rfl) (hw.get 15 rfl) (hw.get 2 rfl) (hw.get 16 rfl) (by decide) (con_H4 K.l K.Z a0 hw (0 : Int32) e2 vl h59 K.n0 X61.ge) (lenOf pd_2 rfl) rfl rfl (by decide) (leb rfl) (by decide) (by decide) (fun T62 h62 v62 X62 q62 => ?_) (fun _ _ q => Nat.le_of_eq (congrArg Array.size q.1))
    obtain ⟨rfl, rfl⟩ := q62
    refine r_iadd X62 cx L_259 ?_
    refine r_iload X62 cx L_260 rfl ?_
    refine r_iconst (3) X62 cx L_262 rfl ?_
    refine r_icmple X62 cx L_263 (fun _ => ?_) (fun c => absurd c (by decide))
    refine r_iconst (0) X62 cx L_270 rfl ?_
    refine r_lload X62 cx L_271 rfl ?_
    refine r_iload X62 cx L_273 rfl ?_
    refine r_static [(.int (0 : Int32)), (.long e3), (.int vl)] [(.int (((own_below (1 : Int32) e0 vl) + (own_below (1 : Int32) e1 vl)) + (own_below (0 : Int32) e2 vl)))] X62 cx L_275 (hw.get 14 rfl) (hw.get 15 rfl) (hw.get 2 rfl) (hw.get 16 rfl) (by decide) (con_H4 K.l K.Z a0 hw (0 : Int32) e3 vl h59 K.n0 X62.ge) (lenOf pd_2 rfl) rfl rfl (by decide) (leb rfl) (by decide) (by decide) (fun T63 h63 v63 X63 q63 => ?_) (fun _ _ q => Nat.le_of_eq (congrArg Array.size q.1))
    obtain ⟨rfl, rfl⟩ := q63
    refine r_iadd X63 cx L_278 ?_
    refine r_iload X63 cx L_279 rfl ?_
    refine r_iconst (4) X63 cx L_281 rfl ?_
    refine r_icmple X63 cx L_282 (fun _ => ?_) (fun c => absurd c (by decide))
    refine r_iconst (0) X63 cx L_289 rfl ?_
    refine r_lload X63 cx L_290 rfl ?_
    refine r_iload X63 cx L_292 rfl ?_
    refine r_static [(.int (0 : Int32)), (.long e4), (.int vl)] [(.int ((((own_below (1 : Int32) e0 vl) + (own_below (1 : Int32) e1 vl)) + (own_below (0 : Int32) e2 vl)) + (own_below (0 : Int32) e3 vl)))] X63 cx L_294 (hw.get 14 rfl) (hw.get 15 rfl) (hw.get 2 rfl) (hw.get 16 rfl) (by decide) (con_H4 K.l K.Z a0 hw (0 : Int32) e4 vl h59 K.n0 X63.ge) (lenOf pd_2 rfl) rfl rfl (by decide) (leb rfl) (by decide) (by decide) (fun T64 h64 v64 X64 q64 => ?_) (fun _ _ q => Nat.le_of_eq (congrArg Array.size q.1))
    obtain ⟨rfl, rfl⟩ := q64
    refine r_iadd X64 cx L_297 ?_
    refine r_iload X64 cx L_298 rfl ?_
    refine r_iconst (5) X64 cx L_300 rfl ?_
    refine r_icmple X64 cx L_301 (fun _ => ?_) (fun c => absurd c (by decide))
    refine r_iconst (0) X64 cx L_308 rfl ?_
    refine r_lload X64 cx L_309 rfl ?_
    refine r_iload X64 cx L_311 rfl ?_
    refine r_static [(.int (0 : Int32)), (.long e5), (.int vl)] [(.int (((((own_below (1 : Int32) e0 vl) + (own_below (1 : Int32) e1 vl)) + (own_below (0 : Int32) e2 vl)) + (own_below (0 : Int32) e3 vl)) + (own_below (0 : Int32) e4 vl)))] X64 cx L_313 (hw.get 14 rfl) (hw.get 15 rfl) (hw.get 2 rfl) (hw.get 16 rfl) (by decide) (con_H4 K.l K.Z a0 hw (0 : Int32) e5 vl h59 K.n0 X64.ge) (lenOf pd_2 rfl) rfl rfl (by decide) (leb rfl) (by decide) (by decide) (fun T65 h65 v65 X65 q65 => ?_) (fun _ _ q => Nat.le_of_eq (congrArg Array.size q.1))
    obtain ⟨rfl, rfl⟩ := q65
    refine r_iadd X65 cx L_316 ?_
    refine r_iload X65 cx L_317 rfl ?_
    refine r_bipush (6) X65 cx L_319 rfl ?_
    refine r_icmple X65 cx L_321 (fun _ => ?_) (fun c => absurd c (by decide))
    refine r_iconst (0) X65 cx L_328 rfl ?_
    refine r_lload X65 cx L_329 rfl ?_
    refine r_iload X65 cx L_331 rfl ?_
    refine r_static [(.int (0 : Int32)), (.long e6), (.int vl)] [(.int ((((((own_below (1 : Int32) e0 vl) + (own_below (1 : Int32) e1 vl)) + (own_below (0 : Int32) e2 vl)) + (own_below (0 : Int32) e3 vl)) + (own_below (0 : Int32) e4 vl)) + (own_below (0 : Int32) e5 vl)))] X65 cx L_333 (hw.get 14 rfl) (hw.get 15 rfl) (hw.get 2 rfl) (hw.get 16 rfl) (by decide) (con_H4 K.l K.Z a0 hw (0 : Int32) e6 vl h59 K.n0 X65.ge) (lenOf pd_2 rfl) rfl rfl (by decide) (leb rfl) (by decide) (by decide) (fun T66 h66 v66 X66 q66 => ?_) (fun _ _ q => Nat.le_of_eq (congrArg Array.size q.1))
    obtain ⟨rfl, rfl⟩ := q66
    refine r_iadd X66 cx L_336 ?_
    refine r_istore (fun zz => #[.val (.int i0), .val (.int i1), .val (.int i2), .val (.int i3), .val (.int (2 : Int32)), .val (.long e0), .second, .val (.long e1), .second, .val (.long e2), .second, .val (.long e3), .second, .val (.long e4), .second, .val (.long e5), .second, .val (.long e6), .second, .val (.int vl), .val (.ref arr), .val (.int zz)]) X66 cx L_337 (fun _ => rfl) (fun ex e_ex => ?_)
    refine r_aload X66 cx L_339 rfl ?_
    refine r_iload X66 cx L_341 rfl ?_
    have hasc : own_asc [(Int64.toInt32 e0), (Int64.toInt32 e1)] := by
      simp only [own_asc, List.mem_cons, List.not_mem_nil, or_false, forall_eq_or_imp, forall_eq, and_true, false_imp_iff, implies_true]
      exact own_le q0 q1 (by omega)
    refine r_static [(.ref arr), (.int vl)] [] X66 cx L_343 (hw.get 17 rfl) (hw.get 18 rfl) (hw.get 19 rfl) (hw.get 20 rfl) (by decide) (con_P19m2 K.l K.Z a0 hw arr vl h59 K.n0 X66.ge [(Int64.toInt32 e0), (Int64.toInt32 e1)] A_arr (ltb rfl) (own_asc_at _ hasc)) (lenOf pd_3 rfl) rfl rfl (by decide) (leb rfl) (by decide) (by decide) (fun T67 h67 v67 X67 q67 => ?_) (fun _ _ q => Nat.le_of_eq (congrArg Array.size q.1))
    obtain ⟨rfl, rfl⟩ := q67
    refine r_iload X67 cx L_346 rfl ?_
    refine r_icmpne X67 cx L_348 (fun c348 => ?_) (fun c348 => ?_)
    · exfalso
      apply c348
      rw [e_ex]
      simp only [own_cc, own_c0, own_b1 q0, own_b1 q1, own_b0]
      simp only [Int32.add_zero, Int32.zero_add, Int32.add_assoc]
    · refine r_iconst (1) X67 cx L_351 rfl ?_
      refine r_goto X67 cx L_352 ?_
      refine r_zreturn X67 cx L_356 (by decide) (by decide) ?_
      rfl
  · obtain rfl : n7 = (3 : Int32) := e_n7.trans m7
    refine r_iload Xj107 cx L_107 rfl ?_
    refine r_newarray Xj107 cx L_109 (hw.get 13 rfl) (3) 3 rfl (Nat.le_refl _) (by decide) (by decide) (by decide) (fun T57 h57 arr ea57 g_arr X57 Ex57 A57 => ?_)
    have A_arr : AI .int K.Z h57 arr [0, 0, 0] := AI.new A57
    refine r_astore #[.val (.int i0), .val (.int i1), .val (.int i2), .val (.int i3), .val (.int (3 : Int32)), .val (.long e0), .second, .val (.long e1), .second, .val (.long e2), .second, .val (.long e3), .second, .val (.long e4), .second, .val (.long e5), .second, .val (.long e6), .second, .val (.int vl), .val (.ref arr), .unset] X57 cx L_111 (hst _) ?_
    refine r_iload X57 cx L_113 rfl ?_
    refine r_ifle X57 cx L_115 (fun c => absurd c (by decide)) (fun _ => ?_)
    refine r_aload X57 cx L_118 rfl ?_
    refine r_iconst (0) X57 cx L_120 rfl ?_
    refine r_lload X57 cx L_121 rfl ?_
    refine r_l2i X57 cx L_123 ?_
    refine r_iastore X57 cx L_124 A_arr (0) rfl (ltb rfl) g_arr (fun T58 h58 X58 W58 N58 => ?_)
    have A_arr : AI .int K.Z h58 arr [(Int64.toInt32 e0), 0, 0] := N58
    refine r_iload X58 cx L_125 rfl ?_
    refine r_iconst (1) X58 cx L_127 rfl ?_
    refine r_icmple X58 cx L_128 (fun c => absurd c (by decide)) (fun _ => ?_)
    refine r_aload X58 cx L_131 rfl ?_
    refine r_iconst (1) X58 cx L_133 rfl ?_
    refine r_lload X58 cx L_134 rfl ?_
    refine r_l2i X58 cx L_136 ?_
    refine r_iastore X58 cx L_137 A_arr (1) rfl (ltb rfl) g_arr (fun T59 h59 X59 W59 N59 => ?_)
    have A_arr : AI .int K.Z h59 arr [(Int64.toInt32 e0), (Int64.toInt32 e1), 0] := N59
    refine r_iload X59 cx L_138 rfl ?_
    refine r_iconst (2) X59 cx L_140 rfl ?_
    refine r_icmple X59 cx L_141 (fun c => absurd c (by decide)) (fun _ => ?_)
    refine r_aload X59 cx L_144 rfl ?_
    refine r_iconst (2) X59 cx L_146 rfl ?_
    refine r_lload X59 cx L_147 rfl ?_
    refine r_l2i X59 cx L_149 ?_
    refine r_iastore X59 cx L_150 A_arr (2) rfl (ltb rfl) g_arr (fun T60 h60 X60 W60 N60 => ?_)
    have A_arr : AI .int K.Z h60 arr [(Int64.toInt32 e0), (Int64.toInt32 e1), (Int64.toInt32 e2)] := N60
    refine r_iload X60 cx L_151 rfl ?_
    refine r_iconst (3) X60 cx L_153 rfl ?_
    refine r_icmple X60 cx L_154 (fun _ => ?_) (fun c => absurd c (by decide))
    refine r_iload X60 cx L_164 rfl ?_
    refine r_iconst (4) X60 cx L_166 rfl ?_
    refine r_icmple X60 cx L_167 (fun _ => ?_) (fun c => absurd c (by decide))
    refine r_iload X60 cx L_177 rfl ?_
    refine r_iconst (5) X60 cx L_179 rfl ?_
    refine r_icmple X60 cx L_180 (fun _ => ?_) (fun c => absurd c (by decide))
    refine r_iload X60 cx L_190 rfl ?_
    refine r_bipush (6) X60 cx L_192 rfl ?_
    refine r_icmple X60 cx L_194 (fun _ => ?_) (fun c => absurd c (by decide))
    refine r_iload X60 cx L_205 rfl ?_
    refine r_ifle X60 cx L_207 (fun c => absurd c (by decide)) (fun _ => ?_)
    refine r_iconst (1) X60 cx L_210 rfl ?_
    refine r_goto X60 cx L_211 ?_
    refine r_lload X60 cx L_215 rfl ?_
    refine r_iload X60 cx L_217 rfl ?_
    refine r_static [(.int (1 : Int32)), (.long e0), (.int vl)] [] X60 cx L_219 (hw.get 14 rfl) (hw.get 15 rfl) (hw.get 2 rfl) (hw.get 16 rfl) (by decide) (con_H4 K.l K.Z a0 hw (1 : Int32) e0 vl h60 K.n0 X60.ge) (lenOf pd_2 rfl) rfl rfl (by decide) (leb rfl) (by decide) (by decide) (fun T61 h61 v61 X61 q61 => ?_) (fun _ _ q => Nat.le_of_eq (congrArg Array.size q.1))
    obtain ⟨rfl, rfl⟩ := q61
    refine r_iload X61 cx L_222 rfl ?_
    refine r_iconst (1) X61 cx L_224 rfl ?_
    refine r_icmple X61 cx L_225 (fun c => absurd c (by decide)) (fun _ => ?_)
    refine r_iconst (1) X61 cx L_228 rfl ?_
    refine r_goto X61 cx L_229 ?_
    refine r_lload X61 cx L_233 rfl ?_
    refine r_iload X61 cx L_235 rfl ?_
    refine r_static [(.int (1 : Int32)), (.long e1), (.int vl)] [(.int (own_below (1 : Int32) e0 vl))] X61 cx L_237 (hw.get 14 rfl) (hw.get 15 rfl) (hw.get 2 rfl) (hw.get 16 rfl) (by decide) (con_H4 K.l K.Z a0 hw (1 : Int32) e1 vl h60 K.n0 X61.ge) (lenOf pd_2 rfl) rfl rfl (by decide) (leb rfl) (by decide) (by decide) (fun T62 h62 v62 X62 q62 => ?_) (fun _ _ q => Nat.le_of_eq (congrArg Array.size q.1))
    obtain ⟨rfl, rfl⟩ := q62
    refine r_iadd X62 cx L_240 ?_
    refine r_iload X62 cx L_241 rfl ?_
    refine r_iconst (2) X62 cx L_243 rfl ?_
    refine r_icmple X62 cx L_244 (fun c => absurd c (by decide)) (fun _ => ?_)
    refine r_iconst (1) X62 cx L_247 rfl ?_
    refine r_goto X62 cx L_248 ?_
    refine r_lload X62 cx L_252 rfl ?_
    refine r_iload X62 cx L_254 rfl ?_
    refine r_static [(.int (1 : Int32)), (.long e2), (.int vl)] [(.int ((own_below (1 : Int32) e0 vl) + (own_below (1 : Int32) e1 vl)))] X62 cx L_256 (hw.get 14 rfl) (hw.get 15 rfl) (hw.get 2 rfl) (hw.get 16 rfl) (by decide) (con_H4 K.l K.Z a0 hw (1 : Int32) e2 vl h60 K.n0 X62.ge) (lenOf pd_2 rfl) rfl rfl (by decide) (leb rfl) (by decide) (by decide) (fun T63 h63 v63 X63 q63 => ?_) (fun _ _ q => Nat.le_of_eq (congrArg Array.size q.1))
    obtain ⟨rfl, rfl⟩ := q63
    refine r_iadd X63 cx L_259 ?_
    refine r_iload X63 cx L_260 rfl ?_
    refine r_iconst (3) X63 cx L_262 rfl ?_
    refine r_icmple X63 cx L_263 (fun _ => ?_) (fun c => absurd c (by decide))
    refine r_iconst (0) X63 cx L_270 rfl ?_
    refine r_lload X63 cx L_271 rfl ?_
    refine r_iload X63 cx L_273 rfl ?_
    refine r_static [(.int (0 : Int32)), (.long e3), (.int vl)] [(.int (((own_below (1 : Int32) e0 vl) + (own_below (1 : Int32) e1 vl)) + (own_below (1 : Int32) e2 vl)))] X63 cx L_275 (hw.get 14 rfl) (hw.get 15 rfl) (hw.get 2 rfl) (hw.get 16 rfl) (by decide) (con_H4 K.l K.Z a0 hw (0 : Int32) e3 vl h60 K.n0 X63.ge) (lenOf pd_2 rfl) rfl rfl (by decide) (leb rfl) (by decide) (by decide) (fun T64 h64 v64 X64 q64 => ?_) (fun _ _ q => Nat.le_of_eq (congrArg Array.size q.1))
    obtain ⟨rfl, rfl⟩ := q64
    refine r_iadd X64 cx L_278 ?_
    refine r_iload X64 cx L_279 rfl ?_
    refine r_iconst (4) X64 cx L_281 rfl ?_
    refine r_icmple X64 cx L_282 (fun _ => ?_) (fun c => absurd c (by decide))
    refine r_iconst (0) X64 cx L_289 rfl ?_
    refine r_lload X64 cx L_290 rfl ?_
    refine r_iload X64 cx L_292 rfl ?_
    refine r_static [(.int (0 : Int32)), (.long e4), (.int vl)] [(.int ((((own_below (1 : Int32) e0 vl) + (own_below (1 : Int32) e1 vl)) + (own_below (1 : Int32) e2 vl)) + (own_below (0 : Int32) e3 vl)))] X64 cx L_294 (hw.get 14 rfl) (hw.get 15 rfl) (hw.get 2 rfl) (hw.get 16 rfl) (by decide) (con_H4 K.l K.Z a0 hw (0 : Int32) e4 vl h60 K.n0 X64.ge) (lenOf pd_2 rfl) rfl rfl (by decide) (leb rfl) (by decide) (by decide) (fun T65 h65 v65 X65 q65 => ?_) (fun _ _ q => Nat.le_of_eq (congrArg Array.size q.1))
    obtain ⟨rfl, rfl⟩ := q65
    refine r_iadd X65 cx L_297 ?_
    refine r_iload X65 cx L_298 rfl ?_
    refine r_iconst (5) X65 cx L_300 rfl ?_
    refine r_icmple X65 cx L_301 (fun _ => ?_) (fun c => absurd c (by decide))
    refine r_iconst (0) X65 cx L_308 rfl ?_
    refine r_lload X65 cx L_309 rfl ?_
    refine r_iload X65 cx L_311 rfl ?_
    refine r_static [(.int (0 : Int32)), (.long e5), (.int vl)] [(.int (((((own_below (1 : Int32) e0 vl) + (own_below (1 : Int32) e1 vl)) + (own_below (1 : Int32) e2 vl)) + (own_below (0 : Int32) e3 vl)) + (own_below (0 : Int32) e4 vl)))] X65 cx L_313 (hw.get 14 rfl) (hw.get 15 rfl) (hw.get 2 rfl) (hw.get 16 rfl) (by decide) (con_H4 K.l K.Z a0 hw (0 : Int32) e5 vl h60 K.n0 X65.ge) (lenOf pd_2 rfl) rfl rfl (by decide) (leb rfl) (by decide) (by decide) (fun T66 h66 v66 X66 q66 => ?_) (fun _ _ q => Nat.le_of_eq (congrArg Array.size q.1))
    obtain ⟨rfl, rfl⟩ := q66
    refine r_iadd X66 cx L_316 ?_
    refine r_iload X66 cx L_317 rfl ?_
    refine r_bipush (6) X66 cx L_319 rfl ?_
    refine r_icmple X66 cx L_321 (fun _ => ?_) (fun c => absurd c (by decide))
    refine r_iconst (0) X66 cx L_328 rfl ?_
    refine r_lload X66 cx L_329 rfl ?_
    refine r_iload X66 cx L_331 rfl ?_
    refine r_static [(.int (0 : Int32)), (.long e6), (.int vl)] [(.int ((((((own_below (1 : Int32) e0 vl) + (own_below (1 : Int32) e1 vl)) + (own_below (1 : Int32) e2 vl)) + (own_below (0 : Int32) e3 vl)) + (own_below (0 : Int32) e4 vl)) + (own_below (0 : Int32) e5 vl)))] X66 cx L_333 (hw.get 14 rfl) (hw.get 15 rfl) (hw.get 2 rfl) (hw.get 16 rfl) (by decide) (con_H4 K.l K.Z a0 hw (0 : Int32) e6 vl h60 K.n0 X66.ge) (lenOf pd_2 rfl) rfl rfl (by decide) (leb rfl) (by decide) (by decide) (fun T67 h67 v67 X67 q67 => ?_) (fun _ _ q => Nat.le_of_eq (congrArg Array.size q.1))
    obtain ⟨rfl, rfl⟩ := q67
    refine r_iadd X67 cx L_336 ?_
    refine r_istore (fun zz => #[.val (.int i0), .val (.int i1), .val (.int i2), .val (.int i3), .val (.int (3 : Int32)), .val (.long e0), .second, .val (.long e1), .second, .val (.long e2), .second, .val (.long e3), .second, .val (.long e4), .second, .val (.long e5), .second, .val (.long e6), .second, .val (.int vl), .val (.ref arr), .val (.int zz)]) X67 cx L_337 (fun _ => rfl) (fun ex e_ex => ?_)
    refine r_aload X67 cx L_339 rfl ?_
    refine r_iload X67 cx L_341 rfl ?_
    have hasc : own_asc [(Int64.toInt32 e0), (Int64.toInt32 e1), (Int64.toInt32 e2)] := by
      simp only [own_asc, List.mem_cons, List.not_mem_nil, or_false, forall_eq_or_imp, forall_eq, and_true, false_imp_iff, implies_true]
      exact ⟨⟨own_le q0 q1 (by omega), own_le q0 q2 (by omega)⟩, own_le q1 q2 (by omega)⟩
    refine r_static [(.ref arr), (.int vl)] [] X67 cx L_343 (hw.get 17 rfl) (hw.get 18 rfl) (hw.get 19 rfl) (hw.get 20 rfl) (by decide) (con_P19m2 K.l K.Z a0 hw arr vl h60 K.n0 X67.ge [(Int64.toInt32 e0), (Int64.toInt32 e1), (Int64.toInt32 e2)] A_arr (ltb rfl) (own_asc_at _ hasc)) (lenOf pd_3 rfl) rfl rfl (by decide) (leb rfl) (by decide) (by decide) (fun T68 h68 v68 X68 q68 => ?_) (fun _ _ q => Nat.le_of_eq (congrArg Array.size q.1))
    obtain ⟨rfl, rfl⟩ := q68
    refine r_iload X68 cx L_346 rfl ?_
    refine r_icmpne X68 cx L_348 (fun c348 => ?_) (fun c348 => ?_)
    · exfalso
      apply c348
      rw [e_ex]
      simp only [own_cc, own_c0, own_b1 q0, own_b1 q1, own_b1 q2, own_b0]
      simp only [Int32.add_zero, Int32.zero_add, Int32.add_assoc]
    · refine r_iconst (1) X68 cx L_351 rfl ?_
      refine r_goto X68 cx L_352 ?_
      refine r_zreturn X68 cx L_356 (by decide) (by decide) ?_
      rfl
  · obtain rfl : n7 = (4 : Int32) := e_n7.trans m7
    refine r_iload Xj107 cx L_107 rfl ?_
    refine r_newarray Xj107 cx L_109 (hw.get 13 rfl) (4) 4 rfl (Nat.le_refl _) (by decide) (by decide) (by decide) (fun T57 h57 arr ea57 g_arr X57 Ex57 A57 => ?_)
    have A_arr : AI .int K.Z h57 arr [0, 0, 0, 0] := AI.new A57
    refine r_astore #[.val (.int i0), .val (.int i1), .val (.int i2), .val (.int i3), .val (.int (4 : Int32)), .val (.long e0), .second, .val (.long e1), .second, .val (.long e2), .second, .val (.long e3), .second, .val (.long e4), .second, .val (.long e5), .second, .val (.long e6), .second, .val (.int vl), .val (.ref arr), .unset] X57 cx L_111 (hst _) ?_
    refine r_iload X57 cx L_113 rfl ?_
    refine r_ifle X57 cx L_115 (fun c => absurd c (by decide)) (fun _ => ?_)
    refine r_aload X57 cx L_118 rfl ?_
    refine r_iconst (0) X57 cx L_120 rfl ?_
    refine r_lload X57 cx L_121 rfl ?_
    refine r_l2i X57 cx L_123 ?_
    refine r_iastore X57 cx L_124 A_arr (0) rfl (ltb rfl) g_arr (fun T58 h58 X58 W58 N58 => ?_)
    have A_arr : AI .int K.Z h58 arr [(Int64.toInt32 e0), 0, 0, 0] := N58
    refine r_iload X58 cx L_125 rfl ?_
    refine r_iconst (1) X58 cx L_127 rfl ?_
    refine r_icmple X58 cx L_128 (fun c => absurd c (by decide)) (fun _ => ?_)
    refine r_aload X58 cx L_131 rfl ?_
    refine r_iconst (1) X58 cx L_133 rfl ?_
    refine r_lload X58 cx L_134 rfl ?_
    refine r_l2i X58 cx L_136 ?_
    refine r_iastore X58 cx L_137 A_arr (1) rfl (ltb rfl) g_arr (fun T59 h59 X59 W59 N59 => ?_)
    have A_arr : AI .int K.Z h59 arr [(Int64.toInt32 e0), (Int64.toInt32 e1), 0, 0] := N59
    refine r_iload X59 cx L_138 rfl ?_
    refine r_iconst (2) X59 cx L_140 rfl ?_
    refine r_icmple X59 cx L_141 (fun c => absurd c (by decide)) (fun _ => ?_)
    refine r_aload X59 cx L_144 rfl ?_
    refine r_iconst (2) X59 cx L_146 rfl ?_
    refine r_lload X59 cx L_147 rfl ?_
    refine r_l2i X59 cx L_149 ?_
    refine r_iastore X59 cx L_150 A_arr (2) rfl (ltb rfl) g_arr (fun T60 h60 X60 W60 N60 => ?_)
    have A_arr : AI .int K.Z h60 arr [(Int64.toInt32 e0), (Int64.toInt32 e1), (Int64.toInt32 e2), 0] := N60
    refine r_iload X60 cx L_151 rfl ?_
    refine r_iconst (3) X60 cx L_153 rfl ?_
    refine r_icmple X60 cx L_154 (fun c => absurd c (by decide)) (fun _ => ?_)
    refine r_aload X60 cx L_157 rfl ?_
    refine r_iconst (3) X60 cx L_159 rfl ?_
    refine r_lload X60 cx L_160 rfl ?_
    refine r_l2i X60 cx L_162 ?_
    refine r_iastore X60 cx L_163 A_arr (3) rfl (ltb rfl) g_arr (fun T61 h61 X61 W61 N61 => ?_)
    have A_arr : AI .int K.Z h61 arr [(Int64.toInt32 e0), (Int64.toInt32 e1), (Int64.toInt32 e2), (Int64.toInt32 e3)] := N61
    refine r_iload X61 cx L_164 rfl ?_
    refine r_iconst (4) X61 cx L_166 rfl ?_
    refine r_icmple X61 cx L_167 (fun _ => ?_) (fun c => absurd c (by decide))
    refine r_iload X61 cx L_177 rfl ?_
    refine r_iconst (5) X61 cx L_179 rfl ?_
    refine r_icmple X61 cx L_180 (fun _ => ?_) (fun c => absurd c (by decide))
    refine r_iload X61 cx L_190 rfl ?_
    refine r_bipush (6) X61 cx L_192 rfl ?_
    refine r_icmple X61 cx L_194 (fun _ => ?_) (fun c => absurd c (by decide))
    refine r_iload X61 cx L_205 rfl ?_
    refine r_ifle X61 cx L_207 (fun c => absurd c (by decide)) (fun _ => ?_)
    refine r_iconst (1) X61 cx L_210 rfl ?_
    refine r_goto X61 cx L_211 ?_
    refine r_lload X61 cx L_215 rfl ?_
    refine r_iload X61 cx L_217 rfl ?_
    refine r_static [(.int (1 : Int32)), (.long e0), (.int vl)] [] X61 cx L_219 (hw.get 14 rfl) (hw.get 15 rfl) (hw.get 2 rfl) (hw.get 16 rfl) (by decide) (con_H4 K.l K.Z a0 hw (1 : Int32) e0 vl h61 K.n0 X61.ge) (lenOf pd_2 rfl) rfl rfl (by decide) (leb rfl) (by decide) (by decide) (fun T62 h62 v62 X62 q62 => ?_) (fun _ _ q => Nat.le_of_eq (congrArg Array.size q.1))
    obtain ⟨rfl, rfl⟩ := q62
    refine r_iload X62 cx L_222 rfl ?_
    refine r_iconst (1) X62 cx L_224 rfl ?_
    refine r_icmple X62 cx L_225 (fun c => absurd c (by decide)) (fun _ => ?_)
    refine r_iconst (1) X62 cx L_228 rfl ?_
    refine r_goto X62 cx L_229 ?_
    refine r_lload X62 cx L_233 rfl ?_
    refine r_iload X62 cx L_235 rfl ?_
    refine r_static [(.int (1 : Int32)), (.long e1), (.int vl)] [(.int (own_below (1 : Int32) e0 vl))] X62 cx L_237 (hw.get 14 rfl) (hw.get 15 rfl) (hw.get 2 rfl) (hw.get 16 rfl) (by decide) (con_H4 K.l K.Z a0 hw (1 : Int32) e1 vl h61 K.n0 X62.ge) (lenOf pd_2 rfl) rfl rfl (by decide) (leb rfl) (by decide) (by decide) (fun T63 h63 v63 X63 q63 => ?_) (fun _ _ q => Nat.le_of_eq (congrArg Array.size q.1))
    obtain ⟨rfl, rfl⟩ := q63
    refine r_iadd X63 cx L_240 ?_
    refine r_iload X63 cx L_241 rfl ?_
    refine r_iconst (2) X63 cx L_243 rfl ?_
    refine r_icmple X63 cx L_244 (fun c => absurd c (by decide)) (fun _ => ?_)
    refine r_iconst (1) X63 cx L_247 rfl ?_
    refine r_goto X63 cx L_248 ?_
    refine r_lload X63 cx L_252 rfl ?_
    refine r_iload X63 cx L_254 rfl ?_
    refine r_static [(.int (1 : Int32)), (.long e2), (.int vl)] [(.int ((own_below (1 : Int32) e0 vl) + (own_below (1 : Int32) e1 vl)))] X63 cx L_256 (hw.get 14 rfl) (hw.get 15 rfl) (hw.get 2 rfl) (hw.get 16 rfl) (by decide) (con_H4 K.l K.Z a0 hw (1 : Int32) e2 vl h61 K.n0 X63.ge) (lenOf pd_2 rfl) rfl rfl (by decide) (leb rfl) (by decide) (by decide) (fun T64 h64 v64 X64 q64 => ?_) (fun _ _ q => Nat.le_of_eq (congrArg Array.size q.1))
    obtain ⟨rfl, rfl⟩ := q64
    refine r_iadd X64 cx L_259 ?_
    refine r_iload X64 cx L_260 rfl ?_
    refine r_iconst (3) X64 cx L_262 rfl ?_
    refine r_icmple X64 cx L_263 (fun c => absurd c (by decide)) (fun _ => ?_)
    refine r_iconst (1) X64 cx L_266 rfl ?_
    refine r_goto X64 cx L_267 ?_
    refine r_lload X64 cx L_271 rfl ?_
    refine r_iload X64 cx L_273 rfl ?_
    refine r_static [(.int (1 : Int32)), (.long e3), (.int vl)] [(.int (((own_below (1 : Int32) e0 vl) + (own_below (1 : Int32) e1 vl)) + (own_below (1 : Int32) e2 vl)))] X64 cx L_275 (hw.get 14 rfl) (hw.get 15 rfl) (hw.get 2 rfl) (hw.get 16 rfl) (by decide) (con_H4 K.l K.Z a0 hw (1 : Int32) e3 vl h61 K.n0 X64.ge) (lenOf pd_2 rfl) rfl rfl (by decide) (leb rfl) (by decide) (by decide) (fun T65 h65 v65 X65 q65 => ?_) (fun _ _ q => Nat.le_of_eq (congrArg Array.size q.1))
    obtain ⟨rfl, rfl⟩ := q65
    refine r_iadd X65 cx L_278 ?_
    refine r_iload X65 cx L_279 rfl ?_
    refine r_iconst (4) X65 cx L_281 rfl ?_
    refine r_icmple X65 cx L_282 (fun _ => ?_) (fun c => absurd c (by decide))
    refine r_iconst (0) X65 cx L_289 rfl ?_
    refine r_lload X65 cx L_290 rfl ?_
    refine r_iload X65 cx L_292 rfl ?_
    refine r_static [(.int (0 : Int32)), (.long e4), (.int vl)] [(.int ((((own_below (1 : Int32) e0 vl) + (own_below (1 : Int32) e1 vl)) + (own_below (1 : Int32) e2 vl)) + (own_below (1 : Int32) e3 vl)))] X65 cx L_294 (hw.get 14 rfl) (hw.get 15 rfl) (hw.get 2 rfl) (hw.get 16 rfl) (by decide) (con_H4 K.l K.Z a0 hw (0 : Int32) e4 vl h61 K.n0 X65.ge) (lenOf pd_2 rfl) rfl rfl (by decide) (leb rfl) (by decide) (by decide) (fun T66 h66 v66 X66 q66 => ?_) (fun _ _ q => Nat.le_of_eq (congrArg Array.size q.1))
    obtain ⟨rfl, rfl⟩ := q66
    refine r_iadd X66 cx L_297 ?_
    refine r_iload X66 cx L_298 rfl ?_
    refine r_iconst (5) X66 cx L_300 rfl ?_
    refine r_icmple X66 cx L_301 (fun _ => ?_) (fun c => absurd c (by decide))
    refine r_iconst (0) X66 cx L_308 rfl ?_
    refine r_lload X66 cx L_309 rfl ?_
    refine r_iload X66 cx L_311 rfl ?_
    refine r_static [(.int (0 : Int32)), (.long e5), (.int vl)] [(.int (((((own_below (1 : Int32) e0 vl) + (own_below (1 : Int32) e1 vl)) + (own_below (1 : Int32) e2 vl)) + (own_below (1 : Int32) e3 vl)) + (own_below (0 : Int32) e4 vl)))] X66 cx L_313 (hw.get 14 rfl) (hw.get 15 rfl) (hw.get 2 rfl) (hw.get 16 rfl) (by decide) (con_H4 K.l K.Z a0 hw (0 : Int32) e5 vl h61 K.n0 X66.ge) (lenOf pd_2 rfl) rfl rfl (by decide) (leb rfl) (by decide) (by decide) (fun T67 h67 v67 X67 q67 => ?_) (fun _ _ q => Nat.le_of_eq (congrArg Array.size q.1))
    obtain ⟨rfl, rfl⟩ := q67
    refine r_iadd X67 cx L_316 ?_
    refine r_iload X67 cx L_317 rfl ?_
    refine r_bipush (6) X67 cx L_319 rfl ?_
    refine r_icmple X67 cx L_321 (fun _ => ?_) (fun c => absurd c (by decide))
    refine r_iconst (0) X67 cx L_328 rfl ?_
    refine r_lload X67 cx L_329 rfl ?_
    refine r_iload X67 cx L_331 rfl ?_
    refine r_static [(.int (0 : Int32)), (.long e6), (.int vl)] [(.int ((((((own_below (1 : Int32) e0 vl) + (own_below (1 : Int32) e1 vl)) + (own_below (1 : Int32) e2 vl)) + (own_below (1 : Int32) e3 vl)) + (own_below (0 : Int32) e4 vl)) + (own_below (0 : Int32) e5 vl)))] X67 cx L_333 (hw.get 14 rfl) (hw.get 15 rfl) (hw.get 2 rfl) (hw.get 16 rfl) (by decide) (con_H4 K.l K.Z a0 hw (0 : Int32) e6 vl h61 K.n0 X67.ge) (lenOf pd_2 rfl) rfl rfl (by decide) (leb rfl) (by decide) (by decide) (fun T68 h68 v68 X68 q68 => ?_) (fun _ _ q => Nat.le_of_eq (congrArg Array.size q.1))
    obtain ⟨rfl, rfl⟩ := q68
    refine r_iadd X68 cx L_336 ?_
    refine r_istore (fun zz => #[.val (.int i0), .val (.int i1), .val (.int i2), .val (.int i3), .val (.int (4 : Int32)), .val (.long e0), .second, .val (.long e1), .second, .val (.long e2), .second, .val (.long e3), .second, .val (.long e4), .second, .val (.long e5), .second, .val (.long e6), .second, .val (.int vl), .val (.ref arr), .val (.int zz)]) X68 cx L_337 (fun _ => rfl) (fun ex e_ex => ?_)
    refine r_aload X68 cx L_339 rfl ?_
    refine r_iload X68 cx L_341 rfl ?_
    have hasc : own_asc [(Int64.toInt32 e0), (Int64.toInt32 e1), (Int64.toInt32 e2), (Int64.toInt32 e3)] := by
      simp only [own_asc, List.mem_cons, List.not_mem_nil, or_false, forall_eq_or_imp, forall_eq, and_true, false_imp_iff, implies_true]
      exact ⟨⟨own_le q0 q1 (by omega), own_le q0 q2 (by omega), own_le q0 q3 (by omega)⟩, ⟨own_le q1 q2 (by omega), own_le q1 q3 (by omega)⟩, own_le q2 q3 (by omega)⟩
    refine r_static [(.ref arr), (.int vl)] [] X68 cx L_343 (hw.get 17 rfl) (hw.get 18 rfl) (hw.get 19 rfl) (hw.get 20 rfl) (by decide) (con_P19m2 K.l K.Z a0 hw arr vl h61 K.n0 X68.ge [(Int64.toInt32 e0), (Int64.toInt32 e1), (Int64.toInt32 e2), (Int64.toInt32 e3)] A_arr (ltb rfl) (own_asc_at _ hasc)) (lenOf pd_3 rfl) rfl rfl (by decide) (leb rfl) (by decide) (by decide) (fun T69 h69 v69 X69 q69 => ?_) (fun _ _ q => Nat.le_of_eq (congrArg Array.size q.1))
    obtain ⟨rfl, rfl⟩ := q69
    refine r_iload X69 cx L_346 rfl ?_
    refine r_icmpne X69 cx L_348 (fun c348 => ?_) (fun c348 => ?_)
    · exfalso
      apply c348
      rw [e_ex]
      simp only [own_cc, own_c0, own_b1 q0, own_b1 q1, own_b1 q2, own_b1 q3, own_b0]
      simp only [Int32.add_zero, Int32.zero_add, Int32.add_assoc]
    · refine r_iconst (1) X69 cx L_351 rfl ?_
      refine r_goto X69 cx L_352 ?_
      refine r_zreturn X69 cx L_356 (by decide) (by decide) ?_
      rfl
  · obtain rfl : n7 = (5 : Int32) := e_n7.trans m7
    refine r_iload Xj107 cx L_107 rfl ?_
    refine r_newarray Xj107 cx L_109 (hw.get 13 rfl) (5) 5 rfl (Nat.le_refl _) (by decide) (by decide) (by decide) (fun T57 h57 arr ea57 g_arr X57 Ex57 A57 => ?_)
    have A_arr : AI .int K.Z h57 arr [0, 0, 0, 0, 0] := AI.new A57
    refine r_astore #[.val (.int i0), .val (.int i1), .val (.int i2), .val (.int i3), .val (.int (5 : Int32)), .val (.long e0), .second, .val (.long e1), .second, .val (.long e2), .second, .val (.long e3), .second, .val (.long e4), .second, .val (.long e5), .second, .val (.long e6), .second, .val (.int vl), .val (.ref arr), .unset] X57 cx L_111 (hst _) ?_
    refine r_iload X57 cx L_113 rfl ?_
    refine r_ifle X57 cx L_115 (fun c => absurd c (by decide)) (fun _ => ?_)
    refine r_aload X57 cx L_118 rfl ?_
    refine r_iconst (0) X57 cx L_120 rfl ?_
    refine r_lload X57 cx L_121 rfl ?_
    refine r_l2i X57 cx L_123 ?_
    refine r_iastore X57 cx L_124 A_arr (0) rfl (ltb rfl) g_arr (fun T58 h58 X58 W58 N58 => ?_)
    have A_arr : AI .int K.Z h58 arr [(Int64.toInt32 e0), 0, 0, 0, 0] := N58
    refine r_iload X58 cx L_125 rfl ?_
    refine r_iconst (1) X58 cx L_127 rfl ?_
    refine r_icmple X58 cx L_128 (fun c => absurd c (by decide)) (fun _ => ?_)
    refine r_aload X58 cx L_131 rfl ?_
    refine r_iconst (1) X58 cx L_133 rfl ?_
    refine r_lload X58 cx L_134 rfl ?_
    refine r_l2i X58 cx L_136 ?_
    refine r_iastore X58 cx L_137 A_arr (1) rfl (ltb rfl) g_arr (fun T59 h59 X59 W59 N59 => ?_)
    have A_arr : AI .int K.Z h59 arr [(Int64.toInt32 e0), (Int64.toInt32 e1), 0, 0, 0] := N59
    refine r_iload X59 cx L_138 rfl ?_
    refine r_iconst (2) X59 cx L_140 rfl ?_
    refine r_icmple X59 cx L_141 (fun c => absurd c (by decide)) (fun _ => ?_)
    refine r_aload X59 cx L_144 rfl ?_
    refine r_iconst (2) X59 cx L_146 rfl ?_
    refine r_lload X59 cx L_147 rfl ?_
    refine r_l2i X59 cx L_149 ?_
    refine r_iastore X59 cx L_150 A_arr (2) rfl (ltb rfl) g_arr (fun T60 h60 X60 W60 N60 => ?_)
    have A_arr : AI .int K.Z h60 arr [(Int64.toInt32 e0), (Int64.toInt32 e1), (Int64.toInt32 e2), 0, 0] := N60
    refine r_iload X60 cx L_151 rfl ?_
    refine r_iconst (3) X60 cx L_153 rfl ?_
    refine r_icmple X60 cx L_154 (fun c => absurd c (by decide)) (fun _ => ?_)
    refine r_aload X60 cx L_157 rfl ?_
    refine r_iconst (3) X60 cx L_159 rfl ?_
    refine r_lload X60 cx L_160 rfl ?_
    refine r_l2i X60 cx L_162 ?_
    refine r_iastore X60 cx L_163 A_arr (3) rfl (ltb rfl) g_arr (fun T61 h61 X61 W61 N61 => ?_)
    have A_arr : AI .int K.Z h61 arr [(Int64.toInt32 e0), (Int64.toInt32 e1), (Int64.toInt32 e2), (Int64.toInt32 e3), 0] := N61
    refine r_iload X61 cx L_164 rfl ?_
    refine r_iconst (4) X61 cx L_166 rfl ?_
    refine r_icmple X61 cx L_167 (fun c => absurd c (by decide)) (fun _ => ?_)
    refine r_aload X61 cx L_170 rfl ?_
    refine r_iconst (4) X61 cx L_172 rfl ?_
    refine r_lload X61 cx L_173 rfl ?_
    refine r_l2i X61 cx L_175 ?_
    refine r_iastore X61 cx L_176 A_arr (4) rfl (ltb rfl) g_arr (fun T62 h62 X62 W62 N62 => ?_)
    have A_arr : AI .int K.Z h62 arr [(Int64.toInt32 e0), (Int64.toInt32 e1), (Int64.toInt32 e2), (Int64.toInt32 e3), (Int64.toInt32 e4)] := N62
    refine r_iload X62 cx L_177 rfl ?_
    refine r_iconst (5) X62 cx L_179 rfl ?_
    refine r_icmple X62 cx L_180 (fun _ => ?_) (fun c => absurd c (by decide))
    refine r_iload X62 cx L_190 rfl ?_
    refine r_bipush (6) X62 cx L_192 rfl ?_
    refine r_icmple X62 cx L_194 (fun _ => ?_) (fun c => absurd c (by decide))
    refine r_iload X62 cx L_205 rfl ?_
    refine r_ifle X62 cx L_207 (fun c => absurd c (by decide)) (fun _ => ?_)
    refine r_iconst (1) X62 cx L_210 rfl ?_
    refine r_goto X62 cx L_211 ?_
    refine r_lload X62 cx L_215 rfl ?_
    refine r_iload X62 cx L_217 rfl ?_
    refine r_static [(.int (1 : Int32)), (.long e0), (.int vl)] [] X62 cx L_219 (hw.get 14 rfl) (hw.get 15 rfl) (hw.get 2 rfl) (hw.get 16 rfl) (by decide) (con_H4 K.l K.Z a0 hw (1 : Int32) e0 vl h62 K.n0 X62.ge) (lenOf pd_2 rfl) rfl rfl (by decide) (leb rfl) (by decide) (by decide) (fun T63 h63 v63 X63 q63 => ?_) (fun _ _ q => Nat.le_of_eq (congrArg Array.size q.1))
    obtain ⟨rfl, rfl⟩ := q63
    refine r_iload X63 cx L_222 rfl ?_
    refine r_iconst (1) X63 cx L_224 rfl ?_
    refine r_icmple X63 cx L_225 (fun c => absurd c (by decide)) (fun _ => ?_)
    refine r_iconst (1) X63 cx L_228 rfl ?_
    refine r_goto X63 cx L_229 ?_
    refine r_lload X63 cx L_233 rfl ?_
    refine r_iload X63 cx L_235 rfl ?_
    refine r_static [(.int (1 : Int32)), (.long e1), (.int vl)] [(.int (own_below (1 : Int32) e0 vl))] X63 cx L_237 (hw.get 14 rfl) (hw.get 15 rfl) (hw.get 2 rfl) (hw.get 16 rfl) (by decide) (con_H4 K.l K.Z a0 hw (1 : Int32) e1 vl h62 K.n0 X63.ge) (lenOf pd_2 rfl) rfl rfl (by decide) (leb rfl) (by decide) (by decide) (fun T64 h64 v64 X64 q64 => ?_) (fun _ _ q => Nat.le_of_eq (congrArg Array.size q.1))
    obtain ⟨rfl, rfl⟩ := q64
    refine r_iadd X64 cx L_240 ?_
    refine r_iload X64 cx L_241 rfl ?_
    refine r_iconst (2) X64 cx L_243 rfl ?_
    refine r_icmple X64 cx L_244 (fun c => absurd c (by decide)) (fun _ => ?_)
    refine r_iconst (1) X64 cx L_247 rfl ?_
    refine r_goto X64 cx L_248 ?_
    refine r_lload X64 cx L_252 rfl ?_
    refine r_iload X64 cx L_254 rfl ?_
    refine r_static [(.int (1 : Int32)), (.long e2), (.int vl)] [(.int ((own_below (1 : Int32) e0 vl) + (own_below (1 : Int32) e1 vl)))] X64 cx L_256 (hw.get 14 rfl) (hw.get 15 rfl) (hw.get 2 rfl) (hw.get 16 rfl) (by decide) (con_H4 K.l K.Z a0 hw (1 : Int32) e2 vl h62 K.n0 X64.ge) (lenOf pd_2 rfl) rfl rfl (by decide) (leb rfl) (by decide) (by decide) (fun T65 h65 v65 X65 q65 => ?_) (fun _ _ q => Nat.le_of_eq (congrArg Array.size q.1))
    obtain ⟨rfl, rfl⟩ := q65
    refine r_iadd X65 cx L_259 ?_
    refine r_iload X65 cx L_260 rfl ?_
    refine r_iconst (3) X65 cx L_262 rfl ?_
    refine r_icmple X65 cx L_263 (fun c => absurd c (by decide)) (fun _ => ?_)
    refine r_iconst (1) X65 cx L_266 rfl ?_
    refine r_goto X65 cx L_267 ?_
    refine r_lload X65 cx L_271 rfl ?_
    refine r_iload X65 cx L_273 rfl ?_
    refine r_static [(.int (1 : Int32)), (.long e3), (.int vl)] [(.int (((own_below (1 : Int32) e0 vl) + (own_below (1 : Int32) e1 vl)) + (own_below (1 : Int32) e2 vl)))] X65 cx L_275 (hw.get 14 rfl) (hw.get 15 rfl) (hw.get 2 rfl) (hw.get 16 rfl) (by decide) (con_H4 K.l K.Z a0 hw (1 : Int32) e3 vl h62 K.n0 X65.ge) (lenOf pd_2 rfl) rfl rfl (by decide) (leb rfl) (by decide) (by decide) (fun T66 h66 v66 X66 q66 => ?_) (fun _ _ q => Nat.le_of_eq (congrArg Array.size q.1))
    obtain ⟨rfl, rfl⟩ := q66
    refine r_iadd X66 cx L_278 ?_
    refine r_iload X66 cx L_279 rfl ?_
    refine r_iconst (4) X66 cx L_281 rfl ?_
    refine r_icmple X66 cx L_282 (fun c => absurd c (by decide)) (fun _ => ?_)
    refine r_iconst (1) X66 cx L_285 rfl ?_
    refine r_goto X66 cx L_286 ?_
    refine r_lload X66 cx L_290 rfl ?_
    refine r_iload X66 cx L_292 rfl ?_
    refine r_static [(.int (1 : Int32)), (.long e4), (.int vl)] [(.int ((((own_below (1 : Int32) e0 vl) + (own_below (1 : Int32) e1 vl)) + (own_below (1 : Int32) e2 vl)) + (own_below (1 : Int32) e3 vl)))] X66 cx L_294 (hw.get 14 rfl) (hw.get 15 rfl) (hw.get 2 rfl) (hw.get 16 rfl) (by decide) (con_H4 K.l K.Z a0 hw (1 : Int32) e4 vl h62 K.n0 X66.ge) (lenOf pd_2 rfl) rfl rfl (by decide) (leb rfl) (by decide) (by decide) (fun T67 h67 v67 X67 q67 => ?_) (fun _ _ q => Nat.le_of_eq (congrArg Array.size q.1))
    obtain ⟨rfl, rfl⟩ := q67
    refine r_iadd X67 cx L_297 ?_
    refine r_iload X67 cx L_298 rfl ?_
    refine r_iconst (5) X67 cx L_300 rfl ?_
    refine r_icmple X67 cx L_301 (fun _ => ?_) (fun c => absurd c (by decide))
    refine r_iconst (0) X67 cx L_308 rfl ?_
    refine r_lload X67 cx L_309 rfl ?_
    refine r_iload X67 cx L_311 rfl ?_
    refine r_static [(.int (0 : Int32)), (.long e5), (.int vl)] [(.int (((((own_below (1 : Int32) e0 vl) + (own_below (1 : Int32) e1 vl)) + (own_below (1 : Int32) e2 vl)) + (own_below (1 : Int32) e3 vl)) + (own_below (1 : Int32) e4 vl)))] X67 cx L_313 (hw.get 14 rfl) (hw.get 15 rfl) (hw.get 2 rfl) (hw.get 16 rfl) (by decide) (con_H4 K.l K.Z a0 hw (0 : Int32) e5 vl h62 K.n0 X67.ge) (lenOf pd_2 rfl) rfl rfl (by decide) (leb rfl) (by decide) (by decide) (fun T68 h68 v68 X68 q68 => ?_) (fun _ _ q => Nat.le_of_eq (congrArg Array.size q.1))
    obtain ⟨rfl, rfl⟩ := q68
    refine r_iadd X68 cx L_316 ?_
    refine r_iload X68 cx L_317 rfl ?_
    refine r_bipush (6) X68 cx L_319 rfl ?_
    refine r_icmple X68 cx L_321 (fun _ => ?_) (fun c => absurd c (by decide))
    refine r_iconst (0) X68 cx L_328 rfl ?_
    refine r_lload X68 cx L_329 rfl ?_
    refine r_iload X68 cx L_331 rfl ?_
    refine r_static [(.int (0 : Int32)), (.long e6), (.int vl)] [(.int ((((((own_below (1 : Int32) e0 vl) + (own_below (1 : Int32) e1 vl)) + (own_below (1 : Int32) e2 vl)) + (own_below (1 : Int32) e3 vl)) + (own_below (1 : Int32) e4 vl)) + (own_below (0 : Int32) e5 vl)))] X68 cx L_333 (hw.get 14 rfl) (hw.get 15 rfl) (hw.get 2 rfl) (hw.get 16 rfl) (by decide) (con_H4 K.l K.Z a0 hw (0 : Int32) e6 vl h62 K.n0 X68.ge) (lenOf pd_2 rfl) rfl rfl (by decide) (leb rfl) (by decide) (by decide) (fun T69 h69 v69 X69 q69 => ?_) (fun _ _ q => Nat.le_of_eq (congrArg Array.size q.1))
    obtain ⟨rfl, rfl⟩ := q69
    refine r_iadd X69 cx L_336 ?_
    refine r_istore (fun zz => #[.val (.int i0), .val (.int i1), .val (.int i2), .val (.int i3), .val (.int (5 : Int32)), .val (.long e0), .second, .val (.long e1), .second, .val (.long e2), .second, .val (.long e3), .second, .val (.long e4), .second, .val (.long e5), .second, .val (.long e6), .second, .val (.int vl), .val (.ref arr), .val (.int zz)]) X69 cx L_337 (fun _ => rfl) (fun ex e_ex => ?_)
    refine r_aload X69 cx L_339 rfl ?_
    refine r_iload X69 cx L_341 rfl ?_
    have hasc : own_asc [(Int64.toInt32 e0), (Int64.toInt32 e1), (Int64.toInt32 e2), (Int64.toInt32 e3), (Int64.toInt32 e4)] := by
      simp only [own_asc, List.mem_cons, List.not_mem_nil, or_false, forall_eq_or_imp, forall_eq, and_true, false_imp_iff, implies_true]
      exact ⟨⟨own_le q0 q1 (by omega), own_le q0 q2 (by omega), own_le q0 q3 (by omega), own_le q0 q4 (by omega)⟩, ⟨own_le q1 q2 (by omega), own_le q1 q3 (by omega), own_le q1 q4 (by omega)⟩, ⟨own_le q2 q3 (by omega), own_le q2 q4 (by omega)⟩, own_le q3 q4 (by omega)⟩
    refine r_static [(.ref arr), (.int vl)] [] X69 cx L_343 (hw.get 17 rfl) (hw.get 18 rfl) (hw.get 19 rfl) (hw.get 20 rfl) (by decide) (con_P19m2 K.l K.Z a0 hw arr vl h62 K.n0 X69.ge [(Int64.toInt32 e0), (Int64.toInt32 e1), (Int64.toInt32 e2), (Int64.toInt32 e3), (Int64.toInt32 e4)] A_arr (ltb rfl) (own_asc_at _ hasc)) (lenOf pd_3 rfl) rfl rfl (by decide) (leb rfl) (by decide) (by decide) (fun T70 h70 v70 X70 q70 => ?_) (fun _ _ q => Nat.le_of_eq (congrArg Array.size q.1))
    obtain ⟨rfl, rfl⟩ := q70
    refine r_iload X70 cx L_346 rfl ?_
    refine r_icmpne X70 cx L_348 (fun c348 => ?_) (fun c348 => ?_)
    · exfalso
      apply c348
      rw [e_ex]
      simp only [own_cc, own_c0, own_b1 q0, own_b1 q1, own_b1 q2, own_b1 q3, own_b1 q4, own_b0]
      simp only [Int32.add_zero, Int32.zero_add, Int32.add_assoc]
    · refine r_iconst (1) X70 cx L_351 rfl ?_
      refine r_goto X70 cx L_352 ?_
      refine r_zreturn X70 cx L_356 (by decide) (by decide) ?_
      rfl
  · obtain rfl : n7 = (6 : Int32) := e_n7.trans m7
    refine r_iload Xj107 cx L_107 rfl ?_
    refine r_newarray Xj107 cx L_109 (hw.get 13 rfl) (6) 6 rfl (Nat.le_refl _) (by decide) (by decide) (by decide) (fun T57 h57 arr ea57 g_arr X57 Ex57 A57 => ?_)
    have A_arr : AI .int K.Z h57 arr [0, 0, 0, 0, 0, 0] := AI.new A57
    refine r_astore #[.val (.int i0), .val (.int i1), .val (.int i2), .val (.int i3), .val (.int (6 : Int32)), .val (.long e0), .second, .val (.long e1), .second, .val (.long e2), .second, .val (.long e3), .second, .val (.long e4), .second, .val (.long e5), .second, .val (.long e6), .second, .val (.int vl), .val (.ref arr), .unset] X57 cx L_111 (hst _) ?_
    refine r_iload X57 cx L_113 rfl ?_
    refine r_ifle X57 cx L_115 (fun c => absurd c (by decide)) (fun _ => ?_)
    refine r_aload X57 cx L_118 rfl ?_
    refine r_iconst (0) X57 cx L_120 rfl ?_
    refine r_lload X57 cx L_121 rfl ?_
    refine r_l2i X57 cx L_123 ?_
    refine r_iastore X57 cx L_124 A_arr (0) rfl (ltb rfl) g_arr (fun T58 h58 X58 W58 N58 => ?_)
    have A_arr : AI .int K.Z h58 arr [(Int64.toInt32 e0), 0, 0, 0, 0, 0] := N58
    refine r_iload X58 cx L_125 rfl ?_
    refine r_iconst (1) X58 cx L_127 rfl ?_
    refine r_icmple X58 cx L_128 (fun c => absurd c (by decide)) (fun _ => ?_)
    refine r_aload X58 cx L_131 rfl ?_
    refine r_iconst (1) X58 cx L_133 rfl ?_
    refine r_lload X58 cx L_134 rfl ?_
    refine r_l2i X58 cx L_136 ?_
    refine r_iastore X58 cx L_137 A_arr (1) rfl (ltb rfl) g_arr (fun T59 h59 X59 W59 N59 => ?_)
    have A_arr : AI .int K.Z h59 arr [(Int64.toInt32 e0), (Int64.toInt32 e1), 0, 0, 0, 0] := N59
    refine r_iload X59 cx L_138 rfl ?_
    refine r_iconst (2) X59 cx L_140 rfl ?_
    refine r_icmple X59 cx L_141 (fun c => absurd c (by decide)) (fun _ => ?_)
    refine r_aload X59 cx L_144 rfl ?_
    refine r_iconst (2) X59 cx L_146 rfl ?_
    refine r_lload X59 cx L_147 rfl ?_
    refine r_l2i X59 cx L_149 ?_
    refine r_iastore X59 cx L_150 A_arr (2) rfl (ltb rfl) g_arr (fun T60 h60 X60 W60 N60 => ?_)
    have A_arr : AI .int K.Z h60 arr [(Int64.toInt32 e0), (Int64.toInt32 e1), (Int64.toInt32 e2), 0, 0, 0] := N60
    refine r_iload X60 cx L_151 rfl ?_
    refine r_iconst (3) X60 cx L_153 rfl ?_
    refine r_icmple X60 cx L_154 (fun c => absurd c (by decide)) (fun _ => ?_)
    refine r_aload X60 cx L_157 rfl ?_
    refine r_iconst (3) X60 cx L_159 rfl ?_
    refine r_lload X60 cx L_160 rfl ?_
    refine r_l2i X60 cx L_162 ?_
    refine r_iastore X60 cx L_163 A_arr (3) rfl (ltb rfl) g_arr (fun T61 h61 X61 W61 N61 => ?_)
    have A_arr : AI .int K.Z h61 arr [(Int64.toInt32 e0), (Int64.toInt32 e1), (Int64.toInt32 e2), (Int64.toInt32 e3), 0, 0] := N61
    refine r_iload X61 cx L_164 rfl ?_
    refine r_iconst (4) X61 cx L_166 rfl ?_
    refine r_icmple X61 cx L_167 (fun c => absurd c (by decide)) (fun _ => ?_)
    refine r_aload X61 cx L_170 rfl ?_
    refine r_iconst (4) X61 cx L_172 rfl ?_
    refine r_lload X61 cx L_173 rfl ?_
    refine r_l2i X61 cx L_175 ?_
    refine r_iastore X61 cx L_176 A_arr (4) rfl (ltb rfl) g_arr (fun T62 h62 X62 W62 N62 => ?_)
    have A_arr : AI .int K.Z h62 arr [(Int64.toInt32 e0), (Int64.toInt32 e1), (Int64.toInt32 e2), (Int64.toInt32 e3), (Int64.toInt32 e4), 0] := N62
    refine r_iload X62 cx L_177 rfl ?_
    refine r_iconst (5) X62 cx L_179 rfl ?_
    refine r_icmple X62 cx L_180 (fun c => absurd c (by decide)) (fun _ => ?_)
    refine r_aload X62 cx L_183 rfl ?_
    refine r_iconst (5) X62 cx L_185 rfl ?_
    refine r_lload X62 cx L_186 rfl ?_
    refine r_l2i X62 cx L_188 ?_
    refine r_iastore X62 cx L_189 A_arr (5) rfl (ltb rfl) g_arr (fun T63 h63 X63 W63 N63 => ?_)
    have A_arr : AI .int K.Z h63 arr [(Int64.toInt32 e0), (Int64.toInt32 e1), (Int64.toInt32 e2), (Int64.toInt32 e3), (Int64.toInt32 e4), (Int64.toInt32 e5)] := N63
    refine r_iload X63 cx L_190 rfl ?_
    refine r_bipush (6) X63 cx L_192 rfl ?_
    refine r_icmple X63 cx L_194 (fun _ => ?_) (fun c => absurd c (by decide))
    refine r_iload X63 cx L_205 rfl ?_
    refine r_ifle X63 cx L_207 (fun c => absurd c (by decide)) (fun _ => ?_)
    refine r_iconst (1) X63 cx L_210 rfl ?_
    refine r_goto X63 cx L_211 ?_
    refine r_lload X63 cx L_215 rfl ?_
    refine r_iload X63 cx L_217 rfl ?_
    refine r_static [(.int (1 : Int32)), (.long e0), (.int vl)] [] X63 cx L_219 (hw.get 14 rfl) (hw.get 15 rfl) (hw.get 2 rfl) (hw.get 16 rfl) (by decide) (con_H4 K.l K.Z a0 hw (1 : Int32) e0 vl h63 K.n0 X63.ge) (lenOf pd_2 rfl) rfl rfl (by decide) (leb rfl) (by decide) (by decide) (fun T64 h64 v64 X64 q64 => ?_) (fun _ _ q => Nat.le_of_eq (congrArg Array.size q.1))
    obtain ⟨rfl, rfl⟩ := q64
    refine r_iload X64 cx L_222 rfl ?_
    refine r_iconst (1) X64 cx L_224 rfl ?_
    refine r_icmple X64 cx L_225 (fun c => absurd c (by decide)) (fun _ => ?_)
    refine r_iconst (1) X64 cx L_228 rfl ?_
    refine r_goto X64 cx L_229 ?_
    refine r_lload X64 cx L_233 rfl ?_
    refine r_iload X64 cx L_235 rfl ?_
    refine r_static [(.int (1 : Int32)), (.long e1), (.int vl)] [(.int (own_below (1 : Int32) e0 vl))] X64 cx L_237 (hw.get 14 rfl) (hw.get 15 rfl) (hw.get 2 rfl) (hw.get 16 rfl) (by decide) (con_H4 K.l K.Z a0 hw (1 : Int32) e1 vl h63 K.n0 X64.ge) (lenOf pd_2 rfl) rfl rfl (by decide) (leb rfl) (by decide) (by decide) (fun T65 h65 v65 X65 q65 => ?_) (fun _ _ q => Nat.le_of_eq (congrArg Array.size q.1))
    obtain ⟨rfl, rfl⟩ := q65
    refine r_iadd X65 cx L_240 ?_
    refine r_iload X65 cx L_241 rfl ?_
    refine r_iconst (2) X65 cx L_243 rfl ?_
    refine r_icmple X65 cx L_244 (fun c => absurd c (by decide)) (fun _ => ?_)
    refine r_iconst (1) X65 cx L_247 rfl ?_
    refine r_goto X65 cx L_248 ?_
    refine r_lload X65 cx L_252 rfl ?_
    refine r_iload X65 cx L_254 rfl ?_
    refine r_static [(.int (1 : Int32)), (.long e2), (.int vl)] [(.int ((own_below (1 : Int32) e0 vl) + (own_below (1 : Int32) e1 vl)))] X65 cx L_256 (hw.get 14 rfl) (hw.get 15 rfl) (hw.get 2 rfl) (hw.get 16 rfl) (by decide) (con_H4 K.l K.Z a0 hw (1 : Int32) e2 vl h63 K.n0 X65.ge) (lenOf pd_2 rfl) rfl rfl (by decide) (leb rfl) (by decide) (by decide) (fun T66 h66 v66 X66 q66 => ?_) (fun _ _ q => Nat.le_of_eq (congrArg Array.size q.1))
    obtain ⟨rfl, rfl⟩ := q66
    refine r_iadd X66 cx L_259 ?_
    refine r_iload X66 cx L_260 rfl ?_
    refine r_iconst (3) X66 cx L_262 rfl ?_
    refine r_icmple X66 cx L_263 (fun c => absurd c (by decide)) (fun _ => ?_)
    refine r_iconst (1) X66 cx L_266 rfl ?_
    refine r_goto X66 cx L_267 ?_
    refine r_lload X66 cx L_271 rfl ?_
    refine r_iload X66 cx L_273 rfl ?_
    refine r_static [(.int (1 : Int32)), (.long e3), (.int vl)] [(.int (((own_below (1 : Int32) e0 vl) + (own_below (1 : Int32) e1 vl)) + (own_below (1 : Int32) e2 vl)))] X66 cx L_275 (hw.get 14 rfl) (hw.get 15 rfl) (hw.get 2 rfl) (hw.get 16 rfl) (by decide) (con_H4 K.l K.Z a0 hw (1 : Int32) e3 vl h63 K.n0 X66.ge) (lenOf pd_2 rfl) rfl rfl (by decide) (leb rfl) (by decide) (by decide) (fun T67 h67 v67 X67 q67 => ?_) (fun _ _ q => Nat.le_of_eq (congrArg Array.size q.1))
    obtain ⟨rfl, rfl⟩ := q67
    refine r_iadd X67 cx L_278 ?_
    refine r_iload X67 cx L_279 rfl ?_
    refine r_iconst (4) X67 cx L_281 rfl ?_
    refine r_icmple X67 cx L_282 (fun c => absurd c (by decide)) (fun _ => ?_)
    refine r_iconst (1) X67 cx L_285 rfl ?_
    refine r_goto X67 cx L_286 ?_
    refine r_lload X67 cx L_290 rfl ?_
    refine r_iload X67 cx L_292 rfl ?_
    refine r_static [(.int (1 : Int32)), (.long e4), (.int vl)] [(.int ((((own_below (1 : Int32) e0 vl) + (own_below (1 : Int32) e1 vl)) + (own_below (1 : Int32) e2 vl)) + (own_below (1 : Int32) e3 vl)))] X67 cx L_294 (hw.get 14 rfl) (hw.get 15 rfl) (hw.get 2 rfl) (hw.get 16 rfl) (by decide) (con_H4 K.l K.Z a0 hw (1 : Int32) e4 vl h63 K.n0 X67.ge) (lenOf pd_2 rfl) rfl rfl (by decide) (leb rfl) (by decide) (by decide) (fun T68 h68 v68 X68 q68 => ?_) (fun _ _ q => Nat.le_of_eq (congrArg Array.size q.1))
    obtain ⟨rfl, rfl⟩ := q68
    refine r_iadd X68 cx L_297 ?_
    refine r_iload X68 cx L_298 rfl ?_
    refine r_iconst (5) X68 cx L_300 rfl ?_
    refine r_icmple X68 cx L_301 (fun c => absurd c (by decide)) (fun _ => ?_)
    refine r_iconst (1) X68 cx L_304 rfl ?_
    refine r_goto X68 cx L_305 ?_
    refine r_lload X68 cx L_309 rfl ?_
    refine r_iload X68 cx L_311 rfl ?_
    refine r_static [(.int (1 : Int32)), (.long e5), (.int vl)] [(.int (((((own_below (1 : Int32) e0 vl) + (own_below (1 : Int32) e1 vl)) + (own_below (1 : Int32) e2 vl)) + (own_below (1 : Int32) e3 vl)) + (own_below (1 : Int32) e4 vl)))] X68 cx L_313 (hw.get 14 rfl) (hw.get 15 rfl) (hw.get 2 rfl) (hw.get 16 rfl) (by decide) (con_H4 K.l K.Z a0 hw (1 : Int32) e5 vl h63 K.n0 X68.ge) (lenOf pd_2 rfl) rfl rfl (by decide) (leb rfl) (by decide) (by decide) (fun T69 h69 v69 X69 q69 => ?_) (fun _ _ q => Nat.le_of_eq (congrArg Array.size q.1))
    obtain ⟨rfl, rfl⟩ := q69
    refine r_iadd X69 cx L_316 ?_
    refine r_iload X69 cx L_317 rfl ?_
    refine r_bipush (6) X69 cx L_319 rfl ?_
    refine r_icmple X69 cx L_321 (fun _ => ?_) (fun c => absurd c (by decide))
    refine r_iconst (0) X69 cx L_328 rfl ?_
    refine r_lload X69 cx L_329 rfl ?_
    refine r_iload X69 cx L_331 rfl ?_
    refine r_static [(.int (0 : Int32)), (.long e6), (.int vl)] [(.int ((((((own_below (1 : Int32) e0 vl) + (own_below (1 : Int32) e1 vl)) + (own_below (1 : Int32) e2 vl)) + (own_below (1 : Int32) e3 vl)) + (own_below (1 : Int32) e4 vl)) + (own_below (1 : Int32) e5 vl)))] X69 cx L_333 (hw.get 14 rfl) (hw.get 15 rfl) (hw.get 2 rfl) (hw.get 16 rfl) (by decide) (con_H4 K.l K.Z a0 hw (0 : Int32) e6 vl h63 K.n0 X69.ge) (lenOf pd_2 rfl) rfl rfl (by decide) (leb rfl) (by decide) (by decide) (fun T70 h70 v70 X70 q70 => ?_) (fun _ _ q => Nat.le_of_eq (congrArg Array.size q.1))
    obtain ⟨rfl, rfl⟩ := q70
    refine r_iadd X70 cx L_336 ?_
    refine r_istore (fun zz => #[.val (.int i0), .val (.int i1), .val (.int i2), .val (.int i3), .val (.int (6 : Int32)), .val (.long e0), .second, .val (.long e1), .second, .val (.long e2), .second, .val (.long e3), .second, .val (.long e4), .second, .val (.long e5), .second, .val (.long e6), .second, .val (.int vl), .val (.ref arr), .val (.int zz)]) X70 cx L_337 (fun _ => rfl) (fun ex e_ex => ?_)
    refine r_aload X70 cx L_339 rfl ?_
    refine r_iload X70 cx L_341 rfl ?_
    have hasc : own_asc [(Int64.toInt32 e0), (Int64.toInt32 e1), (Int64.toInt32 e2), (Int64.toInt32 e3), (Int64.toInt32 e4), (Int64.toInt32 e5)] := by
      simp only [own_asc, List.mem_cons, List.not_mem_nil, or_false, forall_eq_or_imp, forall_eq, and_true, false_imp_iff, implies_true]
      exact ⟨⟨own_le q0 q1 (by omega), own_le q0 q2 (by omega), own_le q0 q3 (by omega), own_le q0 q4 (by omega), own_le q0 q5 (by omega)⟩, ⟨own_le q1 q2 (by omega), own_le q1 q3 (by omega), own_le q1 q4 (by omega), own_le q1 q5 (by omega)⟩, ⟨own_le q2 q3 (by omega), own_le q2 q4 (by omega), own_le q2 q5 (by omega)⟩, ⟨own_le q3 q4 (by omega), own_le q3 q5 (by omega)⟩, own_le q4 q5 (by omega)⟩
    refine r_static [(.ref arr), (.int vl)] [] X70 cx L_343 (hw.get 17 rfl) (hw.get 18 rfl) (hw.get 19 rfl) (hw.get 20 rfl) (by decide) (con_P19m2 K.l K.Z a0 hw arr vl h63 K.n0 X70.ge [(Int64.toInt32 e0), (Int64.toInt32 e1), (Int64.toInt32 e2), (Int64.toInt32 e3), (Int64.toInt32 e4), (Int64.toInt32 e5)] A_arr (ltb rfl) (own_asc_at _ hasc)) (lenOf pd_3 rfl) rfl rfl (by decide) (leb rfl) (by decide) (by decide) (fun T71 h71 v71 X71 q71 => ?_) (fun _ _ q => Nat.le_of_eq (congrArg Array.size q.1))
    obtain ⟨rfl, rfl⟩ := q71
    refine r_iload X71 cx L_346 rfl ?_
    refine r_icmpne X71 cx L_348 (fun c348 => ?_) (fun c348 => ?_)
    · exfalso
      apply c348
      rw [e_ex]
      simp only [own_cc, own_c0, own_b1 q0, own_b1 q1, own_b1 q2, own_b1 q3, own_b1 q4, own_b1 q5, own_b0]
      simp only [Int32.add_zero, Int32.zero_add, Int32.add_assoc]
    · refine r_iconst (1) X71 cx L_351 rfl ?_
      refine r_goto X71 cx L_352 ?_
      refine r_zreturn X71 cx L_356 (by decide) (by decide) ?_
      rfl
  · obtain rfl : n7 = (7 : Int32) := e_n7.trans m7
    refine r_iload Xj107 cx L_107 rfl ?_
    refine r_newarray Xj107 cx L_109 (hw.get 13 rfl) (7) 7 rfl (Nat.le_refl _) (by decide) (by decide) (by decide) (fun T57 h57 arr ea57 g_arr X57 Ex57 A57 => ?_)
    have A_arr : AI .int K.Z h57 arr [0, 0, 0, 0, 0, 0, 0] := AI.new A57
    refine r_astore #[.val (.int i0), .val (.int i1), .val (.int i2), .val (.int i3), .val (.int (7 : Int32)), .val (.long e0), .second, .val (.long e1), .second, .val (.long e2), .second, .val (.long e3), .second, .val (.long e4), .second, .val (.long e5), .second, .val (.long e6), .second, .val (.int vl), .val (.ref arr), .unset] X57 cx L_111 (hst _) ?_
    refine r_iload X57 cx L_113 rfl ?_
    refine r_ifle X57 cx L_115 (fun c => absurd c (by decide)) (fun _ => ?_)
    refine r_aload X57 cx L_118 rfl ?_
    refine r_iconst (0) X57 cx L_120 rfl ?_
    refine r_lload X57 cx L_121 rfl ?_
    refine r_l2i X57 cx L_123 ?_
    refine r_iastore X57 cx L_124 A_arr (0) rfl (ltb rfl) g_arr (fun T58 h58 X58 W58 N58 => ?_)
    have A_arr : AI .int K.Z h58 arr [(Int64.toInt32 e0), 0, 0, 0, 0, 0, 0] := N58
    refine r_iload X58 cx L_125 rfl ?_
    refine r_iconst (1) X58 cx L_127 rfl ?_
    refine r_icmple X58 cx L_128 (fun c => absurd c (by decide)) (fun _ => ?_)
    refine r_aload X58 cx L_131 rfl ?_
    refine r_iconst (1) X58 cx L_133 rfl ?_
    refine r_lload X58 cx L_134 rfl ?_
    refine r_l2i X58 cx L_136 ?_
    refine r_iastore X58 cx L_137 A_arr (1) rfl (ltb rfl) g_arr (fun T59 h59 X59 W59 N59 => ?_)
    have A_arr : AI .int K.Z h59 arr [(Int64.toInt32 e0), (Int64.toInt32 e1), 0, 0, 0, 0, 0] := N59
    refine r_iload X59 cx L_138 rfl ?_
    refine r_iconst (2) X59 cx L_140 rfl ?_
    refine r_icmple X59 cx L_141 (fun c => absurd c (by decide)) (fun _ => ?_)
    refine r_aload X59 cx L_144 rfl ?_
    refine r_iconst (2) X59 cx L_146 rfl ?_
    refine r_lload X59 cx L_147 rfl ?_
    refine r_l2i X59 cx L_149 ?_
    refine r_iastore X59 cx L_150 A_arr (2) rfl (ltb rfl) g_arr (fun T60 h60 X60 W60 N60 => ?_)
    have A_arr : AI .int K.Z h60 arr [(Int64.toInt32 e0), (Int64.toInt32 e1), (Int64.toInt32 e2), 0, 0, 0, 0] := N60
    refine r_iload X60 cx L_151 rfl ?_
    refine r_iconst (3) X60 cx L_153 rfl ?_
    refine r_icmple X60 cx L_154 (fun c => absurd c (by decide)) (fun _ => ?_)
    refine r_aload X60 cx L_157 rfl ?_
    refine r_iconst (3) X60 cx L_159 rfl ?_
    refine r_lload X60 cx L_160 rfl ?_
    refine r_l2i X60 cx L_162 ?_
    refine r_iastore X60 cx L_163 A_arr (3) rfl (ltb rfl) g_arr (fun T61 h61 X61 W61 N61 => ?_)
    have A_arr : AI .int K.Z h61 arr [(Int64.toInt32 e0), (Int64.toInt32 e1), (Int64.toInt32 e2), (Int64.toInt32 e3), 0, 0, 0] := N61
    refine r_iload X61 cx L_164 rfl ?_
    refine r_iconst (4) X61 cx L_166 rfl ?_
    refine r_icmple X61 cx L_167 (fun c => absurd c (by decide)) (fun _ => ?_)
    refine r_aload X61 cx L_170 rfl ?_
    refine r_iconst (4) X61 cx L_172 rfl ?_
    refine r_lload X61 cx L_173 rfl ?_
    refine r_l2i X61 cx L_175 ?_
    refine r_iastore X61 cx L_176 A_arr (4) rfl (ltb rfl) g_arr (fun T62 h62 X62 W62 N62 => ?_)
    have A_arr : AI .int K.Z h62 arr [(Int64.toInt32 e0), (Int64.toInt32 e1), (Int64.toInt32 e2), (Int64.toInt32 e3), (Int64.toInt32 e4), 0, 0] := N62
    refine r_iload X62 cx L_177 rfl ?_
    refine r_iconst (5) X62 cx L_179 rfl ?_
    refine r_icmple X62 cx L_180 (fun c => absurd c (by decide)) (fun _ => ?_)
    refine r_aload X62 cx L_183 rfl ?_
    refine r_iconst (5) X62 cx L_185 rfl ?_
    refine r_lload X62 cx L_186 rfl ?_
    refine r_l2i X62 cx L_188 ?_
    refine r_iastore X62 cx L_189 A_arr (5) rfl (ltb rfl) g_arr (fun T63 h63 X63 W63 N63 => ?_)
    have A_arr : AI .int K.Z h63 arr [(Int64.toInt32 e0), (Int64.toInt32 e1), (Int64.toInt32 e2), (Int64.toInt32 e3), (Int64.toInt32 e4), (Int64.toInt32 e5), 0] := N63
    refine r_iload X63 cx L_190 rfl ?_
    refine r_bipush (6) X63 cx L_192 rfl ?_
    refine r_icmple X63 cx L_194 (fun c => absurd c (by decide)) (fun _ => ?_)
    refine r_aload X63 cx L_197 rfl ?_
    refine r_bipush (6) X63 cx L_199 rfl ?_
    refine r_lload X63 cx L_201 rfl ?_
    refine r_l2i X63 cx L_203 ?_
    refine r_iastore X63 cx L_204 A_arr (6) rfl (ltb rfl) g_arr (fun T64 h64 X64 W64 N64 => ?_)
    have A_arr : AI .int K.Z h64 arr [(Int64.toInt32 e0), (Int64.toInt32 e1), (Int64.toInt32 e2), (Int64.toInt32 e3), (Int64.toInt32 e4), (Int64.toInt32 e5), (Int64.toInt32 e6)] := N64
    refine r_iload X64 cx L_205 rfl ?_
    refine r_ifle X64 cx L_207 (fun c => absurd c (by decide)) (fun _ => ?_)
    refine r_iconst (1) X64 cx L_210 rfl ?_
    refine r_goto X64 cx L_211 ?_
    refine r_lload X64 cx L_215 rfl ?_
    refine r_iload X64 cx L_217 rfl ?_
    refine r_static [(.int (1 : Int32)), (.long e0), (.int vl)] [] X64 cx L_219 (hw.get 14 rfl) (hw.get 15 rfl) (hw.get 2 rfl) (hw.get 16 rfl) (by decide) (con_H4 K.l K.Z a0 hw (1 : Int32) e0 vl h64 K.n0 X64.ge) (lenOf pd_2 rfl) rfl rfl (by decide) (leb rfl) (by decide) (by decide) (fun T65 h65 v65 X65 q65 => ?_) (fun _ _ q => Nat.le_of_eq (congrArg Array.size q.1))
    obtain ⟨rfl, rfl⟩ := q65
    refine r_iload X65 cx L_222 rfl ?_
    refine r_iconst (1) X65 cx L_224 rfl ?_
    refine r_icmple X65 cx L_225 (fun c => absurd c (by decide)) (fun _ => ?_)
    refine r_iconst (1) X65 cx L_228 rfl ?_
    refine r_goto X65 cx L_229 ?_
    refine r_lload X65 cx L_233 rfl ?_
    refine r_iload X65 cx L_235 rfl ?_
    refine r_static [(.int (1 : Int32)), (.long e1), (.int vl)] [(.int (own_below (1 : Int32) e0 vl))] X65 cx L_237 (hw.get 14 rfl) (hw.get 15 rfl) (hw.get 2 rfl) (hw.get 16 rfl) (by decide) (con_H4 K.l K.Z a0 hw (1 : Int32) e1 vl h64 K.n0 X65.ge) (lenOf pd_2 rfl) rfl rfl (by decide) (leb rfl) (by decide) (by decide) (fun T66 h66 v66 X66 q66 => ?_) (fun _ _ q => Nat.le_of_eq (congrArg Array.size q.1))
    obtain ⟨rfl, rfl⟩ := q66
    refine r_iadd X66 cx L_240 ?_
    refine r_iload X66 cx L_241 rfl ?_
    refine r_iconst (2) X66 cx L_243 rfl ?_
    refine r_icmple X66 cx L_244 (fun c => absurd c (by decide)) (fun _ => ?_)
    refine r_iconst (1) X66 cx L_247 rfl ?_
    refine r_goto X66 cx L_248 ?_
    refine r_lload X66 cx L_252 rfl ?_
    refine r_iload X66 cx L_254 rfl ?_
    refine r_static [(.int (1 : Int32)), (.long e2), (.int vl)] [(.int ((own_below (1 : Int32) e0 vl) + (own_below (1 : Int32) e1 vl)))] X66 cx L_256 (hw.get 14 rfl) (hw.get 15 rfl) (hw.get 2 rfl) (hw.get 16 rfl) (by decide) (con_H4 K.l K.Z a0 hw (1 : Int32) e2 vl h64 K.n0 X66.ge) (lenOf pd_2 rfl) rfl rfl (by decide) (leb rfl) (by decide) (by decide) (fun T67 h67 v67 X67 q67 => ?_) (fun _ _ q => Nat.le_of_eq (congrArg Array.size q.1))
    obtain ⟨rfl, rfl⟩ := q67
    refine r_iadd X67 cx L_259 ?_
    refine r_iload X67 cx L_260 rfl ?_
    refine r_iconst (3) X67 cx L_262 rfl ?_
    refine r_icmple X67 cx L_263 (fun c => absurd c (by decide)) (fun _ => ?_)
    refine r_iconst (1) X67 cx L_266 rfl ?_
    refine r_goto X67 cx L_267 ?_
    refine r_lload X67 cx L_271 rfl ?_
    refine r_iload X67 cx L_273 rfl ?_
    refine r_static [(.int (1 : Int32)), (.long e3), (.int vl)] [(.int (((own_below (1 : Int32) e0 vl) + (own_below (1 : Int32) e1 vl)) + (own_below (1 : Int32) e2 vl)))] X67 cx L_275 (hw.get 14 rfl) (hw.get 15 rfl) (hw.get 2 rfl) (hw.get 16 rfl) (by decide) (con_H4 K.l K.Z a0 hw (1 : Int32) e3 vl h64 K.n0 X67.ge) (lenOf pd_2 rfl) rfl rfl (by decide) (leb rfl) (by decide) (by decide) (fun T68 h68 v68 X68 q68 => ?_) (fun _ _ q => Nat.le_of_eq (congrArg Array.size q.1))
    obtain ⟨rfl, rfl⟩ := q68
    refine r_iadd X68 cx L_278 ?_
    refine r_iload X68 cx L_279 rfl ?_
    refine r_iconst (4) X68 cx L_281 rfl ?_
    refine r_icmple X68 cx L_282 (fun c => absurd c (by decide)) (fun _ => ?_)
    refine r_iconst (1) X68 cx L_285 rfl ?_
    refine r_goto X68 cx L_286 ?_
    refine r_lload X68 cx L_290 rfl ?_
    refine r_iload X68 cx L_292 rfl ?_
    refine r_static [(.int (1 : Int32)), (.long e4), (.int vl)] [(.int ((((own_below (1 : Int32) e0 vl) + (own_below (1 : Int32) e1 vl)) + (own_below (1 : Int32) e2 vl)) + (own_below (1 : Int32) e3 vl)))] X68 cx L_294 (hw.get 14 rfl) (hw.get 15 rfl) (hw.get 2 rfl) (hw.get 16 rfl) (by decide) (con_H4 K.l K.Z a0 hw (1 : Int32) e4 vl h64 K.n0 X68.ge) (lenOf pd_2 rfl) rfl rfl (by decide) (leb rfl) (by decide) (by decide) (fun T69 h69 v69 X69 q69 => ?_) (fun _ _ q => Nat.le_of_eq (congrArg Array.size q.1))
    obtain ⟨rfl, rfl⟩ := q69
    refine r_iadd X69 cx L_297 ?_
    refine r_iload X69 cx L_298 rfl ?_
    refine r_iconst (5) X69 cx L_300 rfl ?_
    refine r_icmple X69 cx L_301 (fun c => absurd c (by decide)) (fun _ => ?_)
    refine r_iconst (1) X69 cx L_304 rfl ?_
    refine r_goto X69 cx L_305 ?_
    refine r_lload X69 cx L_309 rfl ?_
    refine r_iload X69 cx L_311 rfl ?_
    refine r_static [(.int (1 : Int32)), (.long e5), (.int vl)] [(.int (((((own_below (1 : Int32) e0 vl) + (own_below (1 : Int32) e1 vl)) + (own_below (1 : Int32) e2 vl)) + (own_below (1 : Int32) e3 vl)) + (own_below (1 : Int32) e4 vl)))] X69 cx L_313 (hw.get 14 rfl) (hw.get 15 rfl) (hw.get 2 rfl) (hw.get 16 rfl) (by decide) (con_H4 K.l K.Z a0 hw (1 : Int32) e5 vl h64 K.n0 X69.ge) (lenOf pd_2 rfl) rfl rfl (by decide) (leb rfl) (by decide) (by decide) (fun T70 h70 v70 X70 q70 => ?_) (fun _ _ q => Nat.le_of_eq (congrArg Array.size q.1))
    obtain ⟨rfl, rfl⟩ := q70
    refine r_iadd X70 cx L_316 ?_
    refine r_iload X70 cx L_317 rfl ?_
    refine r_bipush (6) X70 cx L_319 rfl ?_
    refine r_icmple X70 cx L_321 (fun c => absurd c (by decide)) (fun _ => ?_)
    refine r_iconst (1) X70 cx L_324 rfl ?_
    refine r_goto X70 cx L_325 ?_
    refine r_lload X70 cx L_329 rfl ?_
    refine r_iload X70 cx L_331 rfl ?_
    refine r_static [(.int (1 : Int32)), (.long e6), (.int vl)] [(.int ((((((own_below (1 : Int32) e0 vl) + (own_below (1 : Int32) e1 vl)) + (own_below (1 : Int32) e2 vl)) + (own_below (1 : Int32) e3 vl)) + (own_below (1 : Int32) e4 vl)) + (own_below (1 : Int32) e5 vl)))] X70 cx L_333 (hw.get 14 rfl) (hw.get 15 rfl) (hw.get 2 rfl) (hw.get 16 rfl) (by decide) (con_H4 K.l K.Z a0 hw (1 : Int32) e6 vl h64 K.n0 X70.ge) (lenOf pd_2 rfl) rfl rfl (by decide) (leb rfl) (by decide) (by decide) (fun T71 h71 v71 X71 q71 => ?_) (fun _ _ q => Nat.le_of_eq (congrArg Array.size q.1))
    obtain ⟨rfl, rfl⟩ := q71
    refine r_iadd X71 cx L_336 ?_
    refine r_istore (fun zz => #[.val (.int i0), .val (.int i1), .val (.int i2), .val (.int i3), .val (.int (7 : Int32)), .val (.long e0), .second, .val (.long e1), .second, .val (.long e2), .second, .val (.long e3), .second, .val (.long e4), .second, .val (.long e5), .second, .val (.long e6), .second, .val (.int vl), .val (.ref arr), .val (.int zz)]) X71 cx L_337 (fun _ => rfl) (fun ex e_ex => ?_)
    refine r_aload X71 cx L_339 rfl ?_
    refine r_iload X71 cx L_341 rfl ?_
    have hasc : own_asc [(Int64.toInt32 e0), (Int64.toInt32 e1), (Int64.toInt32 e2), (Int64.toInt32 e3), (Int64.toInt32 e4), (Int64.toInt32 e5), (Int64.toInt32 e6)] := by
      simp only [own_asc, List.mem_cons, List.not_mem_nil, or_false, forall_eq_or_imp, forall_eq, and_true, false_imp_iff, implies_true]
      exact ⟨⟨own_le q0 q1 (by omega), own_le q0 q2 (by omega), own_le q0 q3 (by omega), own_le q0 q4 (by omega), own_le q0 q5 (by omega), own_le q0 q6 (by omega)⟩, ⟨own_le q1 q2 (by omega), own_le q1 q3 (by omega), own_le q1 q4 (by omega), own_le q1 q5 (by omega), own_le q1 q6 (by omega)⟩, ⟨own_le q2 q3 (by omega), own_le q2 q4 (by omega), own_le q2 q5 (by omega), own_le q2 q6 (by omega)⟩, ⟨own_le q3 q4 (by omega), own_le q3 q5 (by omega), own_le q3 q6 (by omega)⟩, ⟨own_le q4 q5 (by omega), own_le q4 q6 (by omega)⟩, own_le q5 q6 (by omega)⟩
    refine r_static [(.ref arr), (.int vl)] [] X71 cx L_343 (hw.get 17 rfl) (hw.get 18 rfl) (hw.get 19 rfl) (hw.get 20 rfl) (by decide) (con_P19m2 K.l K.Z a0 hw arr vl h64 K.n0 X71.ge [(Int64.toInt32 e0), (Int64.toInt32 e1), (Int64.toInt32 e2), (Int64.toInt32 e3), (Int64.toInt32 e4), (Int64.toInt32 e5), (Int64.toInt32 e6)] A_arr (ltb rfl) (own_asc_at _ hasc)) (lenOf pd_3 rfl) rfl rfl (by decide) (leb rfl) (by decide) (by decide) (fun T72 h72 v72 X72 q72 => ?_) (fun _ _ q => Nat.le_of_eq (congrArg Array.size q.1))
    obtain ⟨rfl, rfl⟩ := q72
    refine r_iload X72 cx L_346 rfl ?_
    refine r_icmpne X72 cx L_348 (fun c348 => ?_) (fun c348 => ?_)
    · exfalso
      apply c348
      rw [e_ex]
      simp only [own_cc, own_c0, own_b1 q0, own_b1 q1, own_b1 q2, own_b1 q3, own_b1 q4, own_b1 q5, own_b1 q6, own_b0]
      simp only [Int32.add_zero, Int32.zero_add, Int32.add_assoc]
    · refine r_iconst (1) X72 cx L_351 rfl ?_
      refine r_goto X72 cx L_352 ?_
      refine r_zreturn X72 cx L_356 (by decide) (by decide) ?_
      rfl
set_option maxRecDepth 65536 in
set_option maxHeartbeats 40000000 in
theorem comes_1 {Post : Tables → Env → Array Value → State → Outcome → State → Prop} (hpost : ∀ tb e args s v u, (limb_1_1.after args s (.returned v) u = true ∧ limb_1_2.after args s (.returned v) u = true ∧ True) → FrameEnd s (.returned v) u (Jvm.fieldLocs frame_1_writes args s ++ Jvm.arrayLocs frame_1_arrays args s ++ Jvm.staticLocs frame_1_statics s) 16 128 → Post tb e args s (.returned v) u) :
    ArmFor flags0 classFile x code maxLocals ret World_1 tables_1 room_1 Calls_1 rest_1 Pre_1 Post := by
  intro l hfl _ _ p e ha hc hk s m args below hf hA hF happ hP
  obtain ⟨hcalls, hrest, hpre⟩ := hP
  obtain ⟨-, -, -, hnamed, -, -, -, hat⟩ := (Spec.applies_iff hf).mp happ
  obtain ⟨hg, hn⟩ := and_e (Cond.before_iff.mp (show (Jvm.Cond.and given_1 narrow_1).before args s = true from hpre))
  obtain ⟨gc, r0⟩ := and_e hg
  obtain ⟨g0, r1⟩ := and_e r0
  obtain ⟨g1, r2⟩ := and_e r1
  obtain ⟨g2, r3⟩ := and_e r2
  obtain ⟨w0, w1, w2, w3, rfl⟩ : ∃ w0 w1 w2 w3 : Value, args = #[w0, w1, w2, w3] := by
    have hs : args.size = 4 := by simpa [Cond.value, given_1] using gc
    obtain ⟨L⟩ := args
    match L, hs with
    | [w0, w1, w2, w3], _ => exact ⟨w0, w1, w2, w3, rfl⟩
  have hw : Tb tables_1 #[w0, w1, w2, w3] s := fun d (hd : d ∈ tables_1) => atoms_spec (ws := Jvm.Cond.code x code maxLocals ret :: tables_1) hat d (List.mem_cons_of_mem _ hd)
  obtain ⟨i0, ei0⟩ := is_v g0
  obtain rfl : w0 = (.int i0) := Option.some.inj ei0
  obtain ⟨i1, ei1⟩ := is_v g1
  obtain rfl : w1 = (.int i1) := Option.some.inj ei1
  obtain ⟨i2, ei2⟩ := is_v g2
  obtain rfl : w2 = (.int i2) := Option.some.inj ei2
  obtain ⟨i3, ei3⟩ := is_v r3
  obtain rfl : w3 = (.int i3) := Option.some.inj ei3
  obtain ⟨n, o, h1, h2, h3, _, L, rfl, ⟨rfl, N⟩, hq⟩ := con_L l s _ hw i0 i1 i2 i3 s.heap s.heap.size (Nat.le_refl _) tables_1 p e ha hc hk s m _ below hf ((Spec.applies_iff_loose hf).mp happ).1 ⟨rfl, State.Warmed39.refl s, rfl⟩ trivial
  refine ⟨n, _, h1, h2, h3, hpost _ _ _ _ _ _ ⟨Cond.after_iff.mpr rfl, Cond.after_iff.mpr (eq_i res_at (Term.int_eval (1)) rfl), trivial⟩ ⟨hq.1, hq.2.1, (hq.2.2.sift fun y hy => Or.inr (N y hy)).mono (by decide) (by decide)⟩⟩
theorem main_1_1 : Claimed_1_1 := comes_1 fun _ _ _ _ _ _ h hF => ⟨h.1, hF⟩
theorem main_1_2 : Claimed_1_2 := comes_1 fun _ _ _ _ _ _ h hF => ⟨h.2.1, hF⟩
end Jvm.Pilot.@@N@@
namespace Jvm.Pilot.@@N@@
open Jvm Jvm.ClassFile Sem Op Lib Jvm.Free Jvm.Stand Jvm.Pilot.@@N@@.Jvm.D
/-! MADE BY PROGRAM (witnessworld.py) out of the Statement's table words and the real class files: 10 classes; the members and pool entries that the words name. The judged class is class 1, her method 1. -/
namespace start1
open Jvm.ClassFile
def u (s : String) : CpInfo := .utf8 (stringToUtf16 s)
/-- a pool by its gaps: so many unusable entries, then the entry; so many at the end -/
def gap : Nat → List CpInfo → List CpInfo
  | 0, r => r
  | n + 1, r => .unusable :: gap n r
def poolList (es : List (Nat × CpInfo)) (last : Nat) : List CpInfo := es.foldr (fun e r => gap e.1 (e.2 :: r)) (gap last [])
def pool (es : List (Nat × CpInfo)) (last : Nat) : Array CpInfo := ⟨poolList es last⟩
def fileOf (pool : Array CpInfo) (this : Nat) (attrs : Array Attribute := #[]) (ms : Array MethodInfo := #[]) (fl : Nat := 33) (sup : Nat := 0) (ifs : Array Nat := #[]) (fds : Array FieldInfo := #[]) : ClassFile where
  minorVersion := 0
  majorVersion := 65
  constantPool := pool
  accessFlags := fl
  thisClass := this
  superClass := sup
  interfaces := ifs
  fields := fds
  methods := ms
  attributes := attrs
def plain (name : String) (sup : Option ClassId) : Class where
  name := name
  kind := .ordinary
  loader := none
  accessFlags := 33
  super := sup
  interfaces := #[]
  cf := none
  fields := #[]
  methods := #[]
  instanceTypes := #[]
  staticTypes := #[]
  resolved := #[]
  callSites := []
  init := .initialized
  statics := none
  mirror := none

def pool0 : Array CpInfo := pool [(5, u "<init>"), (0, u "()V"), (1, .class_ 10), (1, u "java/lang/Object")] 113

def k0m0 : Method := { name := "<init>", desc := "()V", sig := { parameters := [], returnType := none }, accessFlags := 1, code := none }
/-- java/lang/Object -/
def k0 : Class := { plain "java/lang/Object" none with
  accessFlags := 33
  interfaces := #[]
  cf := some (fileOf pool0 8 #[] #[{ accessFlags := 1, nameIndex := 5, descriptorIndex := 6, attributes := #[] }] 33 0 #[] #[])
  fields := #[]
  methods := #[k0m0]
  instanceTypes := #[]
  staticTypes := #[]
  resolved := Array.replicate 124 none
  statics := none }

def pool1 : Array CpInfo := pool [(2, .class_ 4), (1, u "java/lang/Object"), (0, u "<init>"), (0, u "()V"), (0, .methodref 8 9), (0, .class_ 10), (0, .nameAndType 11 12), (0, u "com/example/dipper/dipper/correct/SortedIntsFirstFromPinLaw"), (0, u "next"), (0, u "(JII)J"), (2, .long 18446744071562067968), (1, .long 2147483647), (1, .methodref 20 21), (0, .class_ 22), (0, .nameAndType 23 24), (0, u "java/lang/Math"), (0, u "min"), (0, u "(JJ)J"), (0, .methodref 20 26), (0, .nameAndType 27 24), (0, u "max"), (0, .methodref 8 29), (0, .nameAndType 30 31), (0, u "below"), (0, u "(ZJI)I"), (0, .methodref 33 34), (0, .class_ 35), (0, .nameAndType 36 37), (0, u "com/example/dipper/dipper/correct/SortedInts"), (0, u "firstFrom"), (0, u "([II)I"), (2, u "law"), (0, u "(IIII)Z")] 5

def k1m0 : Method := { name := "<init>", desc := "()V", sig := { parameters := [], returnType := none }, accessFlags := 1, code := none }
def k1c1 : Code := { maxStack := 6, maxLocals := 22, code := code, exceptionTable := #[], attributes := #[] }
def k1m1 : Method := { name := "law", desc := "(IIII)Z", sig := { parameters := [.int, .int, .int, .int], returnType := some .boolean }, accessFlags := 9, code := some k1c1 }
def k1c2 : Code := { maxStack := 7, maxLocals := 4, code := method_3_code, exceptionTable := #[], attributes := #[] }
def k1m2 : Method := { name := "next", desc := "(JII)J", sig := { parameters := [.long, .int, .int], returnType := some .long }, accessFlags := 10, code := some k1c2 }
def k1c3 : Code := { maxStack := 4, maxLocals := 4, code := method_4_code, exceptionTable := #[], attributes := #[] }
def k1m3 : Method := { name := "below", desc := "(ZJI)I", sig := { parameters := [.boolean, .long, .int], returnType := some .int }, accessFlags := 10, code := some k1c3 }
/-- com/example/dipper/dipper/correct/SortedIntsFirstFromPinLaw -/
def k1 : Class := { plain "com/example/dipper/dipper/correct/SortedIntsFirstFromPinLaw" (some 0) with
  accessFlags := 49
  interfaces := #[]
  cf := some (fileOf pool1 8 #[] #[{ accessFlags := 1, nameIndex := 5, descriptorIndex := 6, attributes := #[] }, { accessFlags := 9, nameIndex := 40, descriptorIndex := 41, attributes := #[] }, { accessFlags := 10, nameIndex := 11, descriptorIndex := 12, attributes := #[] }, { accessFlags := 10, nameIndex := 30, descriptorIndex := 31, attributes := #[] }] 49 2 #[] #[])
  fields := #[]
  methods := #[k1m0, k1m1, k1m2, k1m3]
  instanceTypes := #[]
  staticTypes := #[]
  resolved := Array.replicate 47 none
  statics := none }

def pool2 : Array CpInfo := pool [(1, .class_ 2), (0, u "java/lang/Math"), (1, .class_ 6), (1, u "java/lang/Object"), (0, u "<init>"), (0, u "()V"), (89, .class_ 100), (1, u "java/lang/Math$RandomNumberGeneratorHolder"), (20, u "(JJ)J"), (50, u "negativeZeroFloatBits"), (0, u "J"), (2, u "negativeZeroDoubleBits"), (21, u "max"), (2, u "min"), (43, u "$assertionsDisabled"), (0, u "Z"), (91, u "twoToTheDoubleScaleDown"), (0, u "D"), (4, u "twoToTheDoubleScaleUp"), (9, u "E"), (3, u "PI"), (2, u "TAU"), (2, u "DEGREES_TO_RADIANS"), (0, u "RADIANS_TO_DEGREES")] 94

def k2m0 : Method := { name := "<init>", desc := "()V", sig := { parameters := [], returnType := none }, accessFlags := 2, code := none }
def k2c1 : Code := { maxStack := 4, maxLocals := 4, code := jdk_29_method_66_code, exceptionTable := #[], attributes := #[] }
def k2m1 : Method := { name := "max", desc := "(JJ)J", sig := { parameters := [.long, .long], returnType := some .long }, accessFlags := 9, code := some k2c1 }
def k2c2 : Code := { maxStack := 4, maxLocals := 4, code := jdk_29_method_70_code, exceptionTable := #[], attributes := #[] }
def k2m2 : Method := { name := "min", desc := "(JJ)J", sig := { parameters := [.long, .long], returnType := some .long }, accessFlags := 9, code := some k2c2 }
/-- java/lang/Math -/
def k2 : Class := { plain "java/lang/Math" (some 0) with
  accessFlags := 49
  interfaces := #[]
  cf := some (fileOf pool2 1 #[.nestMembers #[98]] #[{ accessFlags := 2, nameIndex := 7, descriptorIndex := 8, attributes := #[] }, { accessFlags := 9, nameIndex := 198, descriptorIndex := 121, attributes := #[] }, { accessFlags := 9, nameIndex := 201, descriptorIndex := 121, attributes := #[] }] 49 4 #[] #[{ accessFlags := 25, nameIndex := 354, descriptorIndex := 339, attributes := #[] }, { accessFlags := 25, nameIndex := 358, descriptorIndex := 339, attributes := #[] }, { accessFlags := 25, nameIndex := 361, descriptorIndex := 339, attributes := #[] }, { accessFlags := 26, nameIndex := 364, descriptorIndex := 339, attributes := #[] }, { accessFlags := 26, nameIndex := 365, descriptorIndex := 339, attributes := #[] }, { accessFlags := 26, nameIndex := 172, descriptorIndex := 173, attributes := #[] }, { accessFlags := 26, nameIndex := 176, descriptorIndex := 173, attributes := #[] }, { accessFlags := 8, nameIndex := 344, descriptorIndex := 339, attributes := #[] }, { accessFlags := 8, nameIndex := 338, descriptorIndex := 339, attributes := #[] }, { accessFlags := 4120, nameIndex := 245, descriptorIndex := 246, attributes := #[] }])
  fields := #[{ name := "E", type := .double, accessFlags := 25, slot := 0, constantValue := 0 }, { name := "PI", type := .double, accessFlags := 25, slot := 1, constantValue := 0 }, { name := "TAU", type := .double, accessFlags := 25, slot := 2, constantValue := 0 }, { name := "DEGREES_TO_RADIANS", type := .double, accessFlags := 26, slot := 3, constantValue := 0 }, { name := "RADIANS_TO_DEGREES", type := .double, accessFlags := 26, slot := 4, constantValue := 0 }, { name := "negativeZeroFloatBits", type := .long, accessFlags := 26, slot := 5, constantValue := 0 }, { name := "negativeZeroDoubleBits", type := .long, accessFlags := 26, slot := 6, constantValue := 0 }, { name := "twoToTheDoubleScaleUp", type := .double, accessFlags := 8, slot := 7, constantValue := 0 }, { name := "twoToTheDoubleScaleDown", type := .double, accessFlags := 8, slot := 8, constantValue := 0 }, { name := "$assertionsDisabled", type := .boolean, accessFlags := 4120, slot := 9, constantValue := 0 }]
  methods := #[k2m0, k2m1, k2m2]
  instanceTypes := #[]
  staticTypes := #[.double, .double, .double, .double, .double, .long, .long, .double, .double, .boolean]
  resolved := Array.replicate 460 none
  statics := none }

def pool3 : Array CpInfo := pool [(2, .class_ 4), (1, u "java/lang/Object"), (0, u "<init>"), (0, u "()V"), (0, .class_ 8), (0, u "com/example/dipper/dipper/correct/SortedInts"), (2, u "firstFrom"), (0, u "([II)I")] 3

def k3m0 : Method := { name := "<init>", desc := "()V", sig := { parameters := [], returnType := none }, accessFlags := 2, code := none }
def k3c1 : Code := { maxStack := 2, maxLocals := 5, code := prog_19_method_2_code, exceptionTable := #[], attributes := #[] }
def k3m1 : Method := { name := "firstFrom", desc := "([II)I", sig := { parameters := [(.array .int), .int], returnType := some .int }, accessFlags := 8, code := some k3c1 }
/-- com/example/dipper/dipper/correct/SortedInts -/
def k3 : Class := { plain "com/example/dipper/dipper/correct/SortedInts" (some 0) with
  accessFlags := 48
  interfaces := #[]
  cf := some (fileOf pool3 7 #[] #[{ accessFlags := 2, nameIndex := 5, descriptorIndex := 6, attributes := #[] }, { accessFlags := 8, nameIndex := 11, descriptorIndex := 12, attributes := #[] }] 48 2 #[] #[])
  fields := #[]
  methods := #[k3m0, k3m1]
  instanceTypes := #[]
  staticTypes := #[]
  resolved := Array.replicate 16 none
  statics := none }

def pool4 : Array CpInfo := pool [(1, u "java/lang/Cloneable"), (0, .class_ 1), (0, u "java/lang/Object"), (0, .class_ 3)] 3

/-- java/lang/Cloneable -/
def k4 : Class := { plain "java/lang/Cloneable" (some 0) with
  accessFlags := 1537
  interfaces := #[]
  cf := some (fileOf pool4 2 #[] #[] 1537 4 #[] #[])
  fields := #[]
  methods := #[]
  instanceTypes := #[]
  staticTypes := #[]
  resolved := Array.replicate 8 none
  statics := none }

def pool5 : Array CpInfo := pool [(1, u "java/io/Serializable"), (0, .class_ 1), (0, u "java/lang/Object"), (0, .class_ 3)] 3

/-- java/io/Serializable -/
def k5 : Class := { plain "java/io/Serializable" (some 0) with
  accessFlags := 1537
  interfaces := #[]
  cf := some (fileOf pool5 2 #[] #[] 1537 4 #[] #[])
  fields := #[]
  methods := #[]
  instanceTypes := #[]
  staticTypes := #[]
  resolved := Array.replicate 8 none
  statics := none }

/-- the primitive byte -/
def k6 : Class := { plain "byte" none with kind := .primitive 'B', accessFlags := 0x411 }
/-- [B -/
def k7 : Class := { plain "[B" (some 0) with kind := .array 6 .byte, interfaces := #[4, 5], accessFlags := 1041 }

/-- the primitive int -/
def k8 : Class := { plain "int" none with kind := .primitive 'I', accessFlags := 0x411 }
/-- [I -/
def k9 : Class := { plain "[I" (some 0) with kind := .array 8 .int, interfaces := #[4, 5], accessFlags := 1041 }

def heap : Heap := #[]
def classes : Array Class := #[k0, k1, k2, k3, k4, k5, k6, k7, k8, k9]
def interned : List (Array UInt16 × Addr) := []
def slotsUsed : Nat := 0
def theMethod : MethodId := ⟨1, 1⟩
def args0 : Array Value := #[.int 5, .int 6, .int 7, .int 8]
def aboutOver (below : List Frame) : State where
  vm := { classes := classes, interned := interned.toArray }
  heap := heap
  slotsUsed := slotsUsed
  threads := #[{ frames := .invoking theMethod args0 :: below }]
def below0 : List Frame := [.native { method := ⟨0, 0⟩, args := #[] }]
def about1 : State := aboutOver below0
def p0 : Program := .bare "" "" ""
def e0 : Env := launch0.env 0 0 0
theorem w_frames : about1.frames = Frame.invoking theMethod args0 :: below0 := rfl
set_option maxRecDepth 65536 in
theorem w_args : argsFit about1.vm theMethod args0 = true := by decide +kernel
set_option maxRecDepth 65536 in
theorem w_heap : heapFits about1 = true := by decide +kernel
set_option maxRecDepth 65536 in
theorem w_runnable : about1.curStatus? = some .runnable := by decide +kernel
set_option maxRecDepth 65536 in
theorem w_alone : about1.alone = true := by decide +kernel
set_option maxRecDepth 65536 in
theorem w_named : about1.methodNamed? x = some theMethod := by decide +kernel
set_option maxRecDepth 65536 in
theorem w_hears : about1.hears theMethod below0 = true := by decide +kernel
set_option maxRecDepth 65536 in
theorem w_ripe : about1.ripe theMethod args0 below0 = true := by decide +kernel
theorem w_running : about1.status = .running := rfl
set_option maxRecDepth 65536 in
theorem w_room : about1.hasRoom e0.platform room_1 = true :=
  launch0.hasRoom_least _ room_1 (by decide +kernel) (by decide +kernel) (by decide +kernel) (by decide +kernel) (by decide +kernel) (by decide +kernel)
theorem allAtoms_all (ts : List Jvm.Cond) (a : Array Jvm.Value) (st : Jvm.State) : (allAtoms ts).before a st = ts.all (fun c => c.before a st) := by
  induction ts with
  | nil => rfl
  | cons c t ih =>
    show (Jvm.Cond.and c (allAtoms t)).before a st = _
    rw [Jvm.Cond.before_and, ih, List.all_cons]
def words1 : List Jvm.Cond := Jvm.Cond.code x code maxLocals ret :: tables_1
/-- a 'code' word, met by the world's own term for the bytes: nothing is compared byte by byte -/
theorem code_word {y : MethodName} {bytes : ByteArray} {mx : Nat} {rt : Option FieldType} {a : Array Value} {s : State} {m : MethodId} {meth : Method} {c : Code} (h1 : s.methodNamed? y = some m) (h2 : s.vm.method? m = some meth) (h3 : meth.code = some c) (h4 : c.code = bytes)
    (h5 : (c.maxLocals == mx && c.exceptionTable.isEmpty && decide (c.maxStack ≤ mostOperands) && decide (meth.sig.returnType = rt) && !meth.locks && decide (parseMethodDescriptor y.desc = some meth.sig)) = true) : (Jvm.Cond.code y bytes mx rt).before a s = true := by
  simp only [Bool.and_eq_true, beq_iff_eq, Bool.not_eq_true', decide_eq_true_eq] at h5
  obtain ⟨⟨⟨⟨⟨g1, g2⟩, g3⟩, g4⟩, g5⟩, g6⟩ := h5
  simp [Cond.before, Cond.holds, Cond.value, h1, h2, h3, h4, g1, g2, g3, g4, g5, g6]
def isCode : Jvm.Cond → Bool
  | .code _ _ _ _ => true
  | _ => false
theorem all_split {L : List Jvm.Cond} {P : Jvm.Cond → Bool} (h1 : L.all (fun c => isCode c || P c) = true) (h2 : ∀ c ∈ L.filter isCode, P c = true) : L.all P = true := by
  refine List.all_eq_true.mpr fun c hc => ?_
  have h := List.all_eq_true.mp h1 c hc
  rcases Bool.eq_false_or_eq_true (isCode c) with hi | hi
  · exact h2 c (List.mem_filter.mpr ⟨hc, hi⟩)
  · simpa [hi] using h
set_option maxRecDepth 65536 in
theorem w_c0 : (Jvm.Cond.code x code maxLocals ret).before args0 about1 = true := code_word (m := ⟨1, 1⟩) (meth := k1m1) (c := k1c1) (by decide +kernel) rfl rfl rfl (by decide +kernel)
set_option maxRecDepth 65536 in
theorem w_c1 : (Jvm.Cond.code ({ cls := "com/example/dipper/dipper/correct/SortedIntsFirstFromPinLaw", name := "next", desc := "(JII)J" } : Jvm.MethodName) method_3_code (4 : Nat) (Option.some Jvm.ClassFile.FieldType.long)).before args0 about1 = true := code_word (m := ⟨1, 2⟩) (meth := k1m2) (c := k1c2) (by decide +kernel) rfl rfl rfl (by decide +kernel)
set_option maxRecDepth 65536 in
theorem w_c2 : (Jvm.Cond.code ({ cls := "java/lang/Math", name := "min", desc := "(JJ)J" } : Jvm.MethodName) jdk_29_method_70_code (4 : Nat) (Option.some Jvm.ClassFile.FieldType.long)).before args0 about1 = true := code_word (m := ⟨2, 2⟩) (meth := k2m2) (c := k2c2) (by decide +kernel) rfl rfl rfl (by decide +kernel)
set_option maxRecDepth 65536 in
theorem w_c3 : (Jvm.Cond.code ({ cls := "java/lang/Math", name := "max", desc := "(JJ)J" } : Jvm.MethodName) jdk_29_method_66_code (4 : Nat) (Option.some Jvm.ClassFile.FieldType.long)).before args0 about1 = true := code_word (m := ⟨2, 1⟩) (meth := k2m1) (c := k2c1) (by decide +kernel) rfl rfl rfl (by decide +kernel)
set_option maxRecDepth 65536 in
theorem w_c4 : (Jvm.Cond.code ({ cls := "com/example/dipper/dipper/correct/SortedIntsFirstFromPinLaw", name := "below", desc := "(ZJI)I" } : Jvm.MethodName) method_4_code (4 : Nat) (Option.some Jvm.ClassFile.FieldType.int)).before args0 about1 = true := code_word (m := ⟨1, 3⟩) (meth := k1m3) (c := k1c3) (by decide +kernel) rfl rfl rfl (by decide +kernel)
set_option maxRecDepth 65536 in
theorem w_c5 : (Jvm.Cond.code ({ cls := "com/example/dipper/dipper/correct/SortedInts", name := "firstFrom", desc := "([II)I" } : Jvm.MethodName) prog_19_method_2_code (5 : Nat) (Option.some Jvm.ClassFile.FieldType.int)).before args0 about1 = true := code_word (m := ⟨3, 1⟩) (meth := k3m1) (c := k3c1) (by decide +kernel) rfl rfl rfl (by decide +kernel)
def codes1 : List Jvm.Cond := [Jvm.Cond.code x code maxLocals ret, Jvm.Cond.code ({ cls := "com/example/dipper/dipper/correct/SortedIntsFirstFromPinLaw", name := "next", desc := "(JII)J" } : Jvm.MethodName) method_3_code (4 : Nat) (Option.some Jvm.ClassFile.FieldType.long), Jvm.Cond.code ({ cls := "java/lang/Math", name := "min", desc := "(JJ)J" } : Jvm.MethodName) jdk_29_method_70_code (4 : Nat) (Option.some Jvm.ClassFile.FieldType.long), Jvm.Cond.code ({ cls := "java/lang/Math", name := "max", desc := "(JJ)J" } : Jvm.MethodName) jdk_29_method_66_code (4 : Nat) (Option.some Jvm.ClassFile.FieldType.long), Jvm.Cond.code ({ cls := "com/example/dipper/dipper/correct/SortedIntsFirstFromPinLaw", name := "below", desc := "(ZJI)I" } : Jvm.MethodName) method_4_code (4 : Nat) (Option.some Jvm.ClassFile.FieldType.int), Jvm.Cond.code ({ cls := "com/example/dipper/dipper/correct/SortedInts", name := "firstFrom", desc := "([II)I" } : Jvm.MethodName) prog_19_method_2_code (5 : Nat) (Option.some Jvm.ClassFile.FieldType.int)]
set_option maxRecDepth 65536 in
theorem codes_eq : words1.filter isCode = codes1 := rfl
theorem w_codes : ∀ c ∈ words1.filter isCode, c.before args0 about1 = true := by
  rw [codes_eq]
  intro c hc
  simp only [codes1, List.mem_cons, List.not_mem_nil, or_false] at hc
  rcases hc with rfl | rfl | rfl | rfl | rfl | rfl
  · exact w_c0
  · exact w_c1
  · exact w_c2
  · exact w_c3
  · exact w_c4
  · exact w_c5
set_option maxRecDepth 65536 in
theorem w_t1 : words1.all (fun c => isCode c || c.before args0 about1) = true := by decide +kernel
theorem w_tables : (allAtoms (Jvm.Cond.code x code maxLocals ret :: tables_1)).before args0 about1 = true := by
  rw [allAtoms_all]
  show words1.all (fun c => c.before args0 about1) = true
  refine all_split ?_ w_codes
  rw [w_t1]
set_option maxRecDepth 65536 in
theorem w_case : (Jvm.Cond.and given_1 narrow_1).before args0 about1 = true := by decide +kernel
theorem w_applies : (headSpec (Jvm.Cond.code x code maxLocals ret :: tables_1) room_1).applies x e0.platform about1 = true :=
  (Spec.applies_iff w_frames).mpr ⟨w_running, w_runnable, w_alone, w_named, w_hears, w_ripe, w_room, w_tables⟩
theorem atStart : AtStart classFile x code maxLocals ret World_1 tables_1 room_1 Calls_1 rest_1 Pre_1 launch0 p0 e0 about1 theMethod args0 below0 :=
  ⟨lists_1, trivial, launch0.admits_env _ _ _, launch0.least_env, fairChoices_fair.cas, fairChoices_fair.clock, w_frames, w_args, w_heap, w_applies, trivial, trivial, w_case⟩
end start1
theorem witness_1 : WitnessClaimed_1 := ⟨start1.p0, start1.e0, start1.about1, start1.theMethod, start1.args0, start1.below0, start1.atStart⟩
end Jvm.Pilot.@@N@@

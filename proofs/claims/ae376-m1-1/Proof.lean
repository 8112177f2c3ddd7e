import JvmDerived
import JvmDerived.Pilot.@@N@@Statement
import JvmDerived.Pilot.@@N@@Code
set_option linter.unusedVariables false
set_option linter.unusedSimpArgs false
namespace Jvm.RoadKit
open Sem ClassFile Op Lib Jvm.Stand Jvm.Free Jvm.LawKit
section New
variable {p : Program} {l : Launch} {e : Env} {R : Room} {s : State} {m : MethodId} {args : Array Value} {below : List Frame} {meth : Method} {c : Code} {T : State} {locs : List Loc} {cells slots : Nat}
theorem retI (X : Stand p l e R s m args below meth c T locs cells slots) (hx : p.tables.exec = Jvm.exec) {pc : Nat} {Ls : Array Slot} {z : Int32} {rest : List Value} (hret : meth.sig.returnType = some .int) (hd : decode c.code pc = .ok (.ireturn, 1)) {fs : List Frame}
    (hl : ∀ (f : JFrame) (acts : List Action), f.method = m → f.locked = none → f.entered = [] → (doReturn e (T.setTop f) acts (some (.int z))).1 = T.setFrames fs) : Steps p.tables e below (T.setTop (mkF m pc Ls (.int z :: rest))) (T.setFrames fs) := by
  have hm' : T.vm.method? m = some meth := X.method'
  have hn : narrow .int (.int z) = .int z := rfl
  show Steps p.tables e below (T.setTop { method := m, pc := pc, locals := Ls, stack := _ :: rest, locked := none }) _
  jvm_step X.here [X.here.top, hx, hd, hm', hret, hn]
  first | (intro acts; rw [hl _ acts rfl rfl rfl]) | rw [hl _ _ rfl rfl rfl]
  exact Steps.refl _
end New
end Jvm.RoadKit
namespace Jvm.Own
open Sem ClassFile Op Lib Jvm.Stand Jvm.Free Jvm.LawKit Jvm.RoadKit
/-- the constants of one body's walk -/
abbrev KT := Program × Launch × Env × Room × State × MethodId × Array Value × List Frame × Method × Code × State × Nat
abbrev KT.p (K : KT) : Program := K.1
abbrev KT.l (K : KT) : Launch := K.2.1
abbrev KT.e (K : KT) : Env := K.2.2.1
abbrev KT.R (K : KT) : Room := K.2.2.2.1
abbrev KT.s (K : KT) : State := K.2.2.2.2.1
abbrev KT.m (K : KT) : MethodId := K.2.2.2.2.2.1
abbrev KT.args (K : KT) : Array Value := K.2.2.2.2.2.2.1
abbrev KT.below (K : KT) : List Frame := K.2.2.2.2.2.2.2.1
abbrev KT.meth (K : KT) : Method := K.2.2.2.2.2.2.2.2.1
abbrev KT.c (K : KT) : Code := K.2.2.2.2.2.2.2.2.2.1
abbrev KT.Z (K : KT) : State := K.2.2.2.2.2.2.2.2.2.2.1
abbrev KT.n0 (K : KT) : Nat := K.2.2.2.2.2.2.2.2.2.2.2
/-- what is known of the body -/
def Cx (K : KT) (y : MethodName) (bytes : ByteArray) (mx : Nat) (rt : Option FieldType) (R : Room) : Prop :=
  K.p.tables.exec = Jvm.exec ∧ K.Z.Warmed39 K.s.vm ∧ K.c.code = bytes ∧ K.c.maxLocals = mx ∧ K.s.vm.findClass y.cls = some K.m.cls ∧ K.meth.sig.returnType = rt ∧ K.meth.locks = false ∧ K.R = R ∧ K.meth.name = y.name
/-- where the walk stands: heap h, so many cells and slots made; nothing old written -/
def Sd (K : KT) (T : State) (h : Heap) (cl sl : Nat) : Prop := ∃ locs, Stand K.p K.l K.e K.R K.s K.m K.args K.below K.meth K.c T locs cl sl ∧ Fr K.n0 locs ∧ K.n0 ≤ h.size ∧ T.heap = h
/-- from here the body comes to its end, and Q holds of what it returns and of the heap then -/
def Run (K : KT) (Q : Option Value → Heap → Prop) (T : State) (g : JFrame) : Prop :=
  ∃ s₂ v L, Steps K.p.tables K.e K.below (T.setTop g) s₂ ∧ s₂.status = .running ∧ Ended s₂ K.below (.returned v) ∧ Q v s₂.heap ∧ Fr K.n0 L ∧ FrameEnd K.s (.returned v) s₂ L K.R.cells K.R.slots
theorem Run.st {K : KT} {Q : Option Value → Heap → Prop} {T T' : State} {g g' : JFrame} (st : ∀ t, Steps K.p.tables K.e K.below (T'.setTop g') t → Steps K.p.tables K.e K.below (T.setTop g) t) (k : Run K Q T' g') : Run K Q T g := by
  obtain ⟨s₂, v, L, h1, h2⟩ := k
  exact ⟨s₂, v, L, st _ h1, h2⟩
theorem Run.cast {K : KT} {Q : Option Value → Heap → Prop} {T : State} {g g' : JFrame} (q : g = g') (k : Run K Q T g') : Run K Q T g := q ▸ k
theorem Run.mono {K : KT} {Q Q' : Option Value → Heap → Prop} {T : State} {g : JFrame} (k : Run K Q T g) (q : ∀ v h, Q v h → Q' v h) : Run K Q' T g := by
  obtain ⟨s₂, v, L, h1, h2, h3, h4, h5⟩ := k
  exact ⟨s₂, v, L, h1, h2, h3, q _ _ h4, h5⟩
/-- the words of a sheet -/
def Tb (ws : List Jvm.Cond) (a0 : Array Value) (Z : State) : Prop := ∀ d ∈ ws, d.before a0 Z = true
theorem Tb.get {ws : List Jvm.Cond} {a0 : Array Value} {Z : State} (hw : Tb ws a0 Z) (i : Nat) {d : Jvm.Cond} (h : ws[i]? = some d) : d.before a0 Z = true := hw d (List.mem_of_getElem? h)
/-- an instruction, its length, the pc behind -/
def Dc (bytes : ByteArray) (pc : Nat) (i : Instr) (n pc' : Nat) : Prop := decode bytes pc = .ok (i, n) ∧ pc + n = pc'
/-- a branch: the pc behind, the pc that it goes to -/
def Db (bytes : ByteArray) (pc : Nat) (i : Instr) (o : Int) (pc' pt : Nat) : Prop := decode bytes pc = .ok (i, 3) ∧ pc + 3 = pc' ∧ 0 ≤ (pc : Int) + o ∧ ((pc : Int) + o).toNat = pt
theorem ne_new {a b : Addr} {h : Heap} (ea : a = h.size) (q : b < h.size) : a ≠ b := by subst ea; exact Nat.ne_of_gt q
theorem fr_new {h0 h : Heap} {a : Addr} (ea : a = h.size) (q : h0.size ≤ h.size) : h0.size ≤ a := ea ▸ q
theorem leb {a b : Nat} (h : Nat.ble a b = true) : a ≤ b := Nat.le_of_ble_eq_true h
theorem ltb {a b : Nat} (h : Nat.ble (a + 1) b = true) : a < b := Nat.le_of_ble_eq_true h
section Rules
variable {K : KT} {Q : Option Value → Heap → Prop} {T : State} {h : Heap} {cl sl : Nat} {y : MethodName} {bytes : ByteArray} {mx : Nat} {rt : Option FieldType} {R : Room} {pc pc' pt : Nat} {L : Array Slot} {S : List Value}
theorem r_top {v v' : Int32} (q : v = v') (k : Run K Q T (mkF K.m pc L (.int v' :: S))) : Run K Q T (mkF K.m pc L (.int v :: S)) := q ▸ k
theorem r_topL {v v' : Int64} (q : v = v') (k : Run K Q T (mkF K.m pc L (.long v' :: S))) : Run K Q T (mkF K.m pc L (.long v :: S)) := q ▸ k
theorem Sd.ge (X : Sd K T h cl sl) : K.n0 ≤ h.size := by obtain ⟨_, _, _, q, _⟩ := X; exact q
theorem r_iloadN {i : Fin 4} {v : Int32} (X : Sd K T h cl sl) (cx : Cx K y bytes mx rt R) (hd : Dc bytes pc (.iload_n i) 1 pc') (hl : L[i.val]? = some (.val (.int v))) (k : Run K Q T (mkF K.m pc' L (.int v :: S))) : Run K Q T (mkF K.m pc L (S)) := by
  obtain ⟨locs, X0, -⟩ := X; obtain ⟨hx, -, hby, -⟩ := cx; obtain ⟨d, rfl⟩ := hd
  exact Run.st (fun t q => XS.iloadN X0.here hx rfl (hb hby d) hl q) k
theorem r_iload {i : Nat} {v : Int32} (X : Sd K T h cl sl) (cx : Cx K y bytes mx rt R) (hd : Dc bytes pc (.iload i) 2 pc') (hl : L[i]? = some (.val (.int v))) (k : Run K Q T (mkF K.m pc' L (.int v :: S))) : Run K Q T (mkF K.m pc L (S)) := by
  obtain ⟨locs, X0, -⟩ := X; obtain ⟨hx, -, hby, -⟩ := cx; obtain ⟨d, rfl⟩ := hd
  exact Run.st (fun t q => XS.iload X0.here hx rfl (hb hby d) hl q) k
theorem r_lloadN {i : Fin 4} {v : Int64} (X : Sd K T h cl sl) (cx : Cx K y bytes mx rt R) (hd : Dc bytes pc (.lload_n i) 1 pc') (hl : L[i.val]? = some (.val (.long v))) (k : Run K Q T (mkF K.m pc' L (.long v :: S))) : Run K Q T (mkF K.m pc L (S)) := by
  obtain ⟨locs, X0, -⟩ := X; obtain ⟨hx, -, hby, -⟩ := cx; obtain ⟨d, rfl⟩ := hd
  exact Run.st (fun t q => XT.lloadN X0.here hx rfl (hb hby d) hl q) k
theorem r_lload {i : Nat} {v : Int64} (X : Sd K T h cl sl) (cx : Cx K y bytes mx rt R) (hd : Dc bytes pc (.lload i) 2 pc') (hl : L[i]? = some (.val (.long v))) (k : Run K Q T (mkF K.m pc' L (.long v :: S))) : Run K Q T (mkF K.m pc L (S)) := by
  obtain ⟨locs, X0, -⟩ := X; obtain ⟨hx, -, hby, -⟩ := cx; obtain ⟨d, rfl⟩ := hd
  exact Run.st (fun t q => XT.lload X0.here hx rfl (hb hby d) hl q) k
theorem r_aloadN {i : Fin 4} {v : Addr} (X : Sd K T h cl sl) (cx : Cx K y bytes mx rt R) (hd : Dc bytes pc (.aload_n i) 1 pc') (hl : L[i.val]? = some (.val (.ref v))) (k : Run K Q T (mkF K.m pc' L (.ref v :: S))) : Run K Q T (mkF K.m pc L (S)) := by
  obtain ⟨locs, X0, -⟩ := X; obtain ⟨hx, -, hby, -⟩ := cx; obtain ⟨d, rfl⟩ := hd
  exact Run.st (fun t q => XS.aloadN X0.here hx rfl (hb hby d) hl rfl q) k
theorem r_aload {i : Nat} {v : Addr} (X : Sd K T h cl sl) (cx : Cx K y bytes mx rt R) (hd : Dc bytes pc (.aload i) 2 pc') (hl : L[i]? = some (.val (.ref v))) (k : Run K Q T (mkF K.m pc' L (.ref v :: S))) : Run K Q T (mkF K.m pc L (S)) := by
  obtain ⟨locs, X0, -⟩ := X; obtain ⟨hx, -, hby, -⟩ := cx; obtain ⟨d, rfl⟩ := hd
  exact Run.st (fun t q => XS.aload X0.here hx rfl (hb hby d) hl rfl q) k
theorem r_iconst {i : Int} (v : Int32) (X : Sd K T h cl sl) (cx : Cx K y bytes mx rt R) (hd : Dc bytes pc (.iconst i) 1 pc') (hv : Int32.ofInt i = v) (k : Run K Q T (mkF K.m pc' L (.int v :: S))) : Run K Q T (mkF K.m pc L (S)) := by
  obtain ⟨locs, X0, -⟩ := X; obtain ⟨hx, -, hby, -⟩ := cx; obtain ⟨d, rfl⟩ := hd
  exact Run.st (fun t q => XT.iconstV X0.here hx rfl v (hb hby d) hv q) k
theorem r_bipush {i : Int} (v : Int32) (X : Sd K T h cl sl) (cx : Cx K y bytes mx rt R) (hd : Dc bytes pc (.bipush i) 2 pc') (hv : (Int8.ofInt i).toInt32 = v) (k : Run K Q T (mkF K.m pc' L (.int v :: S))) : Run K Q T (mkF K.m pc L (S)) := by
  obtain ⟨locs, X0, -⟩ := X; obtain ⟨hx, -, hby, -⟩ := cx; obtain ⟨d, rfl⟩ := hd
  exact Run.st (fun t q => XT.bipushV X0.here hx rfl v (hb hby d) hv q) k
theorem r_sipush {i : Int} (v : Int32) (X : Sd K T h cl sl) (cx : Cx K y bytes mx rt R) (hd : Dc bytes pc (.sipush i) 3 pc') (hv : (Int16.ofInt i).toInt32 = v) (k : Run K Q T (mkF K.m pc' L (.int v :: S))) : Run K Q T (mkF K.m pc L (S)) := by
  obtain ⟨locs, X0, -⟩ := X; obtain ⟨hx, -, hby, -⟩ := cx; obtain ⟨d, rfl⟩ := hd
  exact Run.st (fun t q => XT.sipushV X0.here hx rfl v (hb hby d) hv q) k
theorem r_lconst {i : Fin 2} (v : Int64) (X : Sd K T h cl sl) (cx : Cx K y bytes mx rt R) (hd : Dc bytes pc (.lconst i) 1 pc') (hv : Int64.ofNat i = v) (k : Run K Q T (mkF K.m pc' L (.long v :: S))) : Run K Q T (mkF K.m pc L (S)) := by
  obtain ⟨locs, X0, -⟩ := X; obtain ⟨hx, -, hby, -⟩ := cx; obtain ⟨d, rfl⟩ := hd
  exact Run.st (fun t q => XT.lconstV X0.here hx rfl v (hb hby d) hv q) k
theorem r_iadd {a b : Int32} (X : Sd K T h cl sl) (cx : Cx K y bytes mx rt R) (hd : Dc bytes pc .iadd 1 pc') (k : Run K Q T (mkF K.m pc' L (.int (a + b) :: S))) : Run K Q T (mkF K.m pc L (.int b :: .int a :: S)) := by
  obtain ⟨locs, X0, -⟩ := X; obtain ⟨hx, -, hby, -⟩ := cx; obtain ⟨d, rfl⟩ := hd
  exact Run.st (fun t q => XS.iadd X0.here hx rfl (hb hby d) rfl q) k
theorem r_isub {a b : Int32} (X : Sd K T h cl sl) (cx : Cx K y bytes mx rt R) (hd : Dc bytes pc .isub 1 pc') (k : Run K Q T (mkF K.m pc' L (.int (a - b) :: S))) : Run K Q T (mkF K.m pc L (.int b :: .int a :: S)) := by
  obtain ⟨locs, X0, -⟩ := X; obtain ⟨hx, -, hby, -⟩ := cx; obtain ⟨d, rfl⟩ := hd
  exact Run.st (fun t q => XS.isub X0.here hx rfl (hb hby d) rfl q) k
theorem r_imul {a b : Int32} (X : Sd K T h cl sl) (cx : Cx K y bytes mx rt R) (hd : Dc bytes pc .imul 1 pc') (k : Run K Q T (mkF K.m pc' L (.int (a * b) :: S))) : Run K Q T (mkF K.m pc L (.int b :: .int a :: S)) := by
  obtain ⟨locs, X0, -⟩ := X; obtain ⟨hx, -, hby, -⟩ := cx; obtain ⟨d, rfl⟩ := hd
  exact Run.st (fun t q => XS.imul X0.here hx rfl (hb hby d) rfl q) k
theorem r_iand {a b : Int32} (X : Sd K T h cl sl) (cx : Cx K y bytes mx rt R) (hd : Dc bytes pc .iand 1 pc') (k : Run K Q T (mkF K.m pc' L (.int (a &&& b) :: S))) : Run K Q T (mkF K.m pc L (.int b :: .int a :: S)) := by
  obtain ⟨locs, X0, -⟩ := X; obtain ⟨hx, -, hby, -⟩ := cx; obtain ⟨d, rfl⟩ := hd
  exact Run.st (fun t q => XS.iand X0.here hx rfl (hb hby d) rfl q) k
theorem r_ior {a b : Int32} (X : Sd K T h cl sl) (cx : Cx K y bytes mx rt R) (hd : Dc bytes pc .ior 1 pc') (k : Run K Q T (mkF K.m pc' L (.int (a ||| b) :: S))) : Run K Q T (mkF K.m pc L (.int b :: .int a :: S)) := by
  obtain ⟨locs, X0, -⟩ := X; obtain ⟨hx, -, hby, -⟩ := cx; obtain ⟨d, rfl⟩ := hd
  exact Run.st (fun t q => XT.ior X0.here hx rfl (hb hby d) rfl q) k
theorem r_ixor {a b : Int32} (X : Sd K T h cl sl) (cx : Cx K y bytes mx rt R) (hd : Dc bytes pc .ixor 1 pc') (k : Run K Q T (mkF K.m pc' L (.int (a ^^^ b) :: S))) : Run K Q T (mkF K.m pc L (.int b :: .int a :: S)) := by
  obtain ⟨locs, X0, -⟩ := X; obtain ⟨hx, -, hby, -⟩ := cx; obtain ⟨d, rfl⟩ := hd
  exact Run.st (fun t q => XT.ixor X0.here hx rfl (hb hby d) rfl q) k
theorem r_ishl {a b : Int32} (X : Sd K T h cl sl) (cx : Cx K y bytes mx rt R) (hd : Dc bytes pc .ishl 1 pc') (k : Run K Q T (mkF K.m pc' L (.int (a <<< (b &&& 31)) :: S))) : Run K Q T (mkF K.m pc L (.int b :: .int a :: S)) := by
  obtain ⟨locs, X0, -⟩ := X; obtain ⟨hx, -, hby, -⟩ := cx; obtain ⟨d, rfl⟩ := hd
  exact Run.st (fun t q => XT.ishl X0.here hx rfl (hb hby d) rfl q) k
theorem r_ishr {a b : Int32} (X : Sd K T h cl sl) (cx : Cx K y bytes mx rt R) (hd : Dc bytes pc .ishr 1 pc') (k : Run K Q T (mkF K.m pc' L (.int (a >>> (b &&& 31)) :: S))) : Run K Q T (mkF K.m pc L (.int b :: .int a :: S)) := by
  obtain ⟨locs, X0, -⟩ := X; obtain ⟨hx, -, hby, -⟩ := cx; obtain ⟨d, rfl⟩ := hd
  exact Run.st (fun t q => XT.ishr X0.here hx rfl (hb hby d) rfl q) k
theorem r_iushr {a b : Int32} (X : Sd K T h cl sl) (cx : Cx K y bytes mx rt R) (hd : Dc bytes pc .iushr 1 pc') (k : Run K Q T (mkF K.m pc' L (.int (XT.ushr a b) :: S))) : Run K Q T (mkF K.m pc L (.int b :: .int a :: S)) := by
  obtain ⟨locs, X0, -⟩ := X; obtain ⟨hx, -, hby, -⟩ := cx; obtain ⟨d, rfl⟩ := hd
  exact Run.st (fun t q => XT.iushr X0.here hx rfl (hb hby d) rfl q) k
theorem r_idiv {a b : Int32} (X : Sd K T h cl sl) (cx : Cx K y bytes mx rt R) (hd : Dc bytes pc .idiv 1 pc') (hne : b ≠ 0) (k : Run K Q T (mkF K.m pc' L (.int (a / b) :: S))) : Run K Q T (mkF K.m pc L (.int b :: .int a :: S)) := by
  obtain ⟨locs, X0, -⟩ := X; obtain ⟨hx, -, hby, -⟩ := cx; obtain ⟨d, rfl⟩ := hd
  exact Run.st (fun t q => XS.idiv X0.here hx rfl (hb hby d) rfl hne q) k
theorem r_irem {a b : Int32} (X : Sd K T h cl sl) (cx : Cx K y bytes mx rt R) (hd : Dc bytes pc .irem 1 pc') (hne : b ≠ 0) (k : Run K Q T (mkF K.m pc' L (.int (a - (a / b) * b) :: S))) : Run K Q T (mkF K.m pc L (.int b :: .int a :: S)) := by
  obtain ⟨locs, X0, -⟩ := X; obtain ⟨hx, -, hby, -⟩ := cx; obtain ⟨d, rfl⟩ := hd
  exact Run.st (fun t q => XS.irem X0.here hx rfl (hb hby d) rfl hne q) k
theorem r_ladd {a b : Int64} (X : Sd K T h cl sl) (cx : Cx K y bytes mx rt R) (hd : Dc bytes pc .ladd 1 pc') (k : Run K Q T (mkF K.m pc' L (.long (a + b) :: S))) : Run K Q T (mkF K.m pc L (.long b :: .long a :: S)) := by
  obtain ⟨locs, X0, -⟩ := X; obtain ⟨hx, -, hby, -⟩ := cx; obtain ⟨d, rfl⟩ := hd
  exact Run.st (fun t q => XT.ladd X0.here hx rfl (hb hby d) rfl q) k
theorem r_lsub {a b : Int64} (X : Sd K T h cl sl) (cx : Cx K y bytes mx rt R) (hd : Dc bytes pc .lsub 1 pc') (k : Run K Q T (mkF K.m pc' L (.long (a - b) :: S))) : Run K Q T (mkF K.m pc L (.long b :: .long a :: S)) := by
  obtain ⟨locs, X0, -⟩ := X; obtain ⟨hx, -, hby, -⟩ := cx; obtain ⟨d, rfl⟩ := hd
  exact Run.st (fun t q => XT.lsub X0.here hx rfl (hb hby d) rfl q) k
theorem r_lmul {a b : Int64} (X : Sd K T h cl sl) (cx : Cx K y bytes mx rt R) (hd : Dc bytes pc .lmul 1 pc') (k : Run K Q T (mkF K.m pc' L (.long (a * b) :: S))) : Run K Q T (mkF K.m pc L (.long b :: .long a :: S)) := by
  obtain ⟨locs, X0, -⟩ := X; obtain ⟨hx, -, hby, -⟩ := cx; obtain ⟨d, rfl⟩ := hd
  exact Run.st (fun t q => XT.lmul X0.here hx rfl (hb hby d) rfl q) k
theorem r_land {a b : Int64} (X : Sd K T h cl sl) (cx : Cx K y bytes mx rt R) (hd : Dc bytes pc .land 1 pc') (k : Run K Q T (mkF K.m pc' L (.long (a &&& b) :: S))) : Run K Q T (mkF K.m pc L (.long b :: .long a :: S)) := by
  obtain ⟨locs, X0, -⟩ := X; obtain ⟨hx, -, hby, -⟩ := cx; obtain ⟨d, rfl⟩ := hd
  exact Run.st (fun t q => XT.land X0.here hx rfl (hb hby d) rfl q) k
theorem r_lor {a b : Int64} (X : Sd K T h cl sl) (cx : Cx K y bytes mx rt R) (hd : Dc bytes pc .lor 1 pc') (k : Run K Q T (mkF K.m pc' L (.long (a ||| b) :: S))) : Run K Q T (mkF K.m pc L (.long b :: .long a :: S)) := by
  obtain ⟨locs, X0, -⟩ := X; obtain ⟨hx, -, hby, -⟩ := cx; obtain ⟨d, rfl⟩ := hd
  exact Run.st (fun t q => XT.lor X0.here hx rfl (hb hby d) rfl q) k
theorem r_lxor {a b : Int64} (X : Sd K T h cl sl) (cx : Cx K y bytes mx rt R) (hd : Dc bytes pc .lxor 1 pc') (k : Run K Q T (mkF K.m pc' L (.long (a ^^^ b) :: S))) : Run K Q T (mkF K.m pc L (.long b :: .long a :: S)) := by
  obtain ⟨locs, X0, -⟩ := X; obtain ⟨hx, -, hby, -⟩ := cx; obtain ⟨d, rfl⟩ := hd
  exact Run.st (fun t q => XT.lxor X0.here hx rfl (hb hby d) rfl q) k
theorem r_ldiv {a b : Int64} (X : Sd K T h cl sl) (cx : Cx K y bytes mx rt R) (hd : Dc bytes pc .ldiv 1 pc') (hne : b ≠ 0) (k : Run K Q T (mkF K.m pc' L (.long (a / b) :: S))) : Run K Q T (mkF K.m pc L (.long b :: .long a :: S)) := by
  obtain ⟨locs, X0, -⟩ := X; obtain ⟨hx, -, hby, -⟩ := cx; obtain ⟨d, rfl⟩ := hd
  exact Run.st (fun t q => XT.ldiv X0.here hx rfl (hb hby d) rfl hne q) k
theorem r_lrem {a b : Int64} (X : Sd K T h cl sl) (cx : Cx K y bytes mx rt R) (hd : Dc bytes pc .lrem 1 pc') (hne : b ≠ 0) (k : Run K Q T (mkF K.m pc' L (.long (a - (a / b) * b) :: S))) : Run K Q T (mkF K.m pc L (.long b :: .long a :: S)) := by
  obtain ⟨locs, X0, -⟩ := X; obtain ⟨hx, -, hby, -⟩ := cx; obtain ⟨d, rfl⟩ := hd
  exact Run.st (fun t q => XT.lrem X0.here hx rfl (hb hby d) rfl hne q) k
theorem r_lshl {a : Int64} {b : Int32} (X : Sd K T h cl sl) (cx : Cx K y bytes mx rt R) (hd : Dc bytes pc .lshl 1 pc') (k : Run K Q T (mkF K.m pc' L (.long (a <<< (b.toInt64 &&& 63)) :: S))) : Run K Q T (mkF K.m pc L (.int b :: .long a :: S)) := by
  obtain ⟨locs, X0, -⟩ := X; obtain ⟨hx, -, hby, -⟩ := cx; obtain ⟨d, rfl⟩ := hd
  exact Run.st (fun t q => XT.lshl X0.here hx rfl (hb hby d) rfl q) k
theorem r_lshr {a : Int64} {b : Int32} (X : Sd K T h cl sl) (cx : Cx K y bytes mx rt R) (hd : Dc bytes pc .lshr 1 pc') (k : Run K Q T (mkF K.m pc' L (.long (a >>> (b.toInt64 &&& 63)) :: S))) : Run K Q T (mkF K.m pc L (.int b :: .long a :: S)) := by
  obtain ⟨locs, X0, -⟩ := X; obtain ⟨hx, -, hby, -⟩ := cx; obtain ⟨d, rfl⟩ := hd
  exact Run.st (fun t q => XT.lshr X0.here hx rfl (hb hby d) rfl q) k
theorem r_lushr {a : Int64} {b : Int32} (X : Sd K T h cl sl) (cx : Cx K y bytes mx rt R) (hd : Dc bytes pc .lushr 1 pc') (k : Run K Q T (mkF K.m pc' L (.long (XT.ushrL a b) :: S))) : Run K Q T (mkF K.m pc L (.int b :: .long a :: S)) := by
  obtain ⟨locs, X0, -⟩ := X; obtain ⟨hx, -, hby, -⟩ := cx; obtain ⟨d, rfl⟩ := hd
  exact Run.st (fun t q => XT.lushr X0.here hx rfl (hb hby d) rfl q) k
theorem r_ineg {a : Int32} (X : Sd K T h cl sl) (cx : Cx K y bytes mx rt R) (hd : Dc bytes pc .ineg 1 pc') (k : Run K Q T (mkF K.m pc' L (.int (-a) :: S))) : Run K Q T (mkF K.m pc L (.int a :: S)) := by
  obtain ⟨locs, X0, -⟩ := X; obtain ⟨hx, -, hby, -⟩ := cx; obtain ⟨d, rfl⟩ := hd
  exact Run.st (fun t q => XS.ineg X0.here hx rfl (hb hby d) rfl q) k
theorem r_i2l {a : Int32} (X : Sd K T h cl sl) (cx : Cx K y bytes mx rt R) (hd : Dc bytes pc .i2l 1 pc') (k : Run K Q T (mkF K.m pc' L (.long a.toInt64 :: S))) : Run K Q T (mkF K.m pc L (.int a :: S)) := by
  obtain ⟨locs, X0, -⟩ := X; obtain ⟨hx, -, hby, -⟩ := cx; obtain ⟨d, rfl⟩ := hd
  exact Run.st (fun t q => XT.i2l X0.here hx rfl (hb hby d) rfl q) k
theorem r_l2i {a : Int64} (X : Sd K T h cl sl) (cx : Cx K y bytes mx rt R) (hd : Dc bytes pc .l2i 1 pc') (k : Run K Q T (mkF K.m pc' L (.int a.toInt32 :: S))) : Run K Q T (mkF K.m pc L (.long a :: S)) := by
  obtain ⟨locs, X0, -⟩ := X; obtain ⟨hx, -, hby, -⟩ := cx; obtain ⟨d, rfl⟩ := hd
  exact Run.st (fun t q => XT.l2i X0.here hx rfl (hb hby d) rfl q) k
theorem r_i2b {a : Int32} (X : Sd K T h cl sl) (cx : Cx K y bytes mx rt R) (hd : Dc bytes pc .i2b 1 pc') (k : Run K Q T (mkF K.m pc' L (.int a.toInt8.toInt32 :: S))) : Run K Q T (mkF K.m pc L (.int a :: S)) := by
  obtain ⟨locs, X0, -⟩ := X; obtain ⟨hx, -, hby, -⟩ := cx; obtain ⟨d, rfl⟩ := hd
  exact Run.st (fun t q => XT.i2b X0.here hx rfl (hb hby d) rfl q) k
theorem r_i2s {a : Int32} (X : Sd K T h cl sl) (cx : Cx K y bytes mx rt R) (hd : Dc bytes pc .i2s 1 pc') (k : Run K Q T (mkF K.m pc' L (.int a.toInt16.toInt32 :: S))) : Run K Q T (mkF K.m pc L (.int a :: S)) := by
  obtain ⟨locs, X0, -⟩ := X; obtain ⟨hx, -, hby, -⟩ := cx; obtain ⟨d, rfl⟩ := hd
  exact Run.st (fun t q => XT.i2s X0.here hx rfl (hb hby d) rfl q) k
theorem r_lcmp {a b : Int64} (X : Sd K T h cl sl) (cx : Cx K y bytes mx rt R) (hd : Dc bytes pc .lcmp 1 pc') (k : Run K Q T (mkF K.m pc' L (.int (XT.cmpL a b) :: S))) : Run K Q T (mkF K.m pc L (.long b :: .long a :: S)) := by
  obtain ⟨locs, X0, -⟩ := X; obtain ⟨hx, -, hby, -⟩ := cx; obtain ⟨d, rfl⟩ := hd
  exact Run.st (fun t q => XT.lcmp X0.here hx rfl (hb hby d) rfl q) k
theorem r_dup {v : Value} (X : Sd K T h cl sl) (cx : Cx K y bytes mx rt R) (hd : Dc bytes pc .dup 1 pc') (hc : v.category = 1) (k : Run K Q T (mkF K.m pc' L (v :: v :: S))) : Run K Q T (mkF K.m pc L (v :: S)) := by
  obtain ⟨locs, X0, -⟩ := X; obtain ⟨hx, -, hby, -⟩ := cx; obtain ⟨d, rfl⟩ := hd
  exact Run.st (fun t q => XS.dup X0.here hx rfl (hb hby d) rfl hc q) k
theorem r_pop {v : Value} (X : Sd K T h cl sl) (cx : Cx K y bytes mx rt R) (hd : Dc bytes pc .pop 1 pc') (hc : v.category = 1) (k : Run K Q T (mkF K.m pc' L (S))) : Run K Q T (mkF K.m pc L (v :: S)) := by
  obtain ⟨locs, X0, -⟩ := X; obtain ⟨hx, -, hby, -⟩ := cx; obtain ⟨d, rfl⟩ := hd
  exact Run.st (fun t q => XT.pop X0.here hx rfl (hb hby d) rfl hc q) k
theorem r_dup2 {v w : Value} (X : Sd K T h cl sl) (cx : Cx K y bytes mx rt R) (hd : Dc bytes pc .dup2 1 pc') (hc : v.category = 1) (hc2 : w.category = 1) (k : Run K Q T (mkF K.m pc' L (v :: w :: v :: w :: S))) : Run K Q T (mkF K.m pc L (v :: w :: S)) := by
  obtain ⟨locs, X0, -⟩ := X; obtain ⟨hx, -, hby, -⟩ := cx; obtain ⟨d, rfl⟩ := hd
  exact Run.st (fun t q => XT.dup2 X0.here hx rfl (hb hby d) rfl hc hc2 q) k
theorem r_dup_x1 {v w : Value} (X : Sd K T h cl sl) (cx : Cx K y bytes mx rt R) (hd : Dc bytes pc .dup_x1 1 pc') (hc : v.category = 1) (hc2 : w.category = 1) (k : Run K Q T (mkF K.m pc' L (v :: w :: v :: S))) : Run K Q T (mkF K.m pc L (v :: w :: S)) := by
  obtain ⟨locs, X0, -⟩ := X; obtain ⟨hx, -, hby, -⟩ := cx; obtain ⟨d, rfl⟩ := hd
  exact Run.st (fun t q => XT.dupX1 X0.here hx rfl (hb hby d) rfl hc hc2 q) k
theorem r_istoreN {i : Fin 4} {x : Int32} (L' : Int32 → Array Slot) (X : Sd K T h cl sl) (cx : Cx K y bytes mx rt R) (hd : Dc bytes pc (.istore_n i) 1 pc') (hl : ∀ v, storeLocals L i.val (.int v) = some (L' v)) (k : ∀ v, v = x → Run K Q T (mkF K.m pc' (L' v) S)) : Run K Q T (mkF K.m pc L (.int x :: S)) := by
  obtain ⟨locs, X0, -⟩ := X; obtain ⟨hx, -, hby, -⟩ := cx; obtain ⟨d, rfl⟩ := hd
  exact Run.st (fun t q => XS.istoreN X0.here hx rfl (hb hby d) rfl (hl x) q) (k x rfl)
theorem r_istore {i : Nat} {x : Int32} (L' : Int32 → Array Slot) (X : Sd K T h cl sl) (cx : Cx K y bytes mx rt R) (hd : Dc bytes pc (.istore i) 2 pc') (hl : ∀ v, storeLocals L i (.int v) = some (L' v)) (k : ∀ v, v = x → Run K Q T (mkF K.m pc' (L' v) S)) : Run K Q T (mkF K.m pc L (.int x :: S)) := by
  obtain ⟨locs, X0, -⟩ := X; obtain ⟨hx, -, hby, -⟩ := cx; obtain ⟨d, rfl⟩ := hd
  exact Run.st (fun t q => XS.istore X0.here hx rfl (hb hby d) rfl (hl x) q) (k x rfl)
theorem r_lstoreN {i : Fin 4} {x : Int64} (L' : Int64 → Array Slot) (X : Sd K T h cl sl) (cx : Cx K y bytes mx rt R) (hd : Dc bytes pc (.lstore_n i) 1 pc') (hl : ∀ v, storeLocals L i.val (.long v) = some (L' v)) (k : ∀ v, v = x → Run K Q T (mkF K.m pc' (L' v) S)) : Run K Q T (mkF K.m pc L (.long x :: S)) := by
  obtain ⟨locs, X0, -⟩ := X; obtain ⟨hx, -, hby, -⟩ := cx; obtain ⟨d, rfl⟩ := hd
  exact Run.st (fun t q => XT.lstoreN X0.here hx rfl (hb hby d) rfl (hl x) q) (k x rfl)
theorem r_lstore {i : Nat} {x : Int64} (L' : Int64 → Array Slot) (X : Sd K T h cl sl) (cx : Cx K y bytes mx rt R) (hd : Dc bytes pc (.lstore i) 2 pc') (hl : ∀ v, storeLocals L i (.long v) = some (L' v)) (k : ∀ v, v = x → Run K Q T (mkF K.m pc' (L' v) S)) : Run K Q T (mkF K.m pc L (.long x :: S)) := by
  obtain ⟨locs, X0, -⟩ := X; obtain ⟨hx, -, hby, -⟩ := cx; obtain ⟨d, rfl⟩ := hd
  exact Run.st (fun t q => XT.lstore X0.here hx rfl (hb hby d) rfl (hl x) q) (k x rfl)
theorem r_astoreN {i : Fin 4} {x : Addr} (L' : Array Slot) (X : Sd K T h cl sl) (cx : Cx K y bytes mx rt R) (hd : Dc bytes pc (.astore_n i) 1 pc') (hl : storeLocals L i.val (.ref x) = some L') (k : Run K Q T (mkF K.m pc' L' S)) : Run K Q T (mkF K.m pc L (.ref x :: S)) := by
  obtain ⟨locs, X0, -⟩ := X; obtain ⟨hx, -, hby, -⟩ := cx; obtain ⟨d, rfl⟩ := hd
  exact Run.st (fun t q => XS.astoreN X0.here hx rfl (hb hby d) rfl rfl hl q) k
theorem r_astore {i : Nat} {x : Addr} (L' : Array Slot) (X : Sd K T h cl sl) (cx : Cx K y bytes mx rt R) (hd : Dc bytes pc (.astore i) 2 pc') (hl : storeLocals L i (.ref x) = some L') (k : Run K Q T (mkF K.m pc' L' S)) : Run K Q T (mkF K.m pc L (.ref x :: S)) := by
  obtain ⟨locs, X0, -⟩ := X; obtain ⟨hx, -, hby, -⟩ := cx; obtain ⟨d, rfl⟩ := hd
  exact Run.st (fun t q => XS.astore X0.here hx rfl (hb hby d) rfl rfl hl q) k
theorem r_iinc {i : Nat} {cst : Int} {x : Int32} (w : Int32) (L' : Int32 → Array Slot) (X : Sd K T h cl sl) (cx : Cx K y bytes mx rt R) (hd : Dc bytes pc (.iinc i cst) 3 pc') (hv : Int32.ofInt cst = w) (ho : L[i]? = some (.val (.int x))) (hl : ∀ v, storeLocals L i (.int v) = some (L' v)) (k : ∀ v, v = x + w → Run K Q T (mkF K.m pc' (L' v) S)) : Run K Q T (mkF K.m pc L S) := by
  obtain ⟨locs, X0, -⟩ := X; obtain ⟨hx, -, hby, -⟩ := cx; obtain ⟨d, rfl⟩ := hd
  exact Run.st (fun t q => XT.iincV X0.here hx rfl w (hb hby d) hv ho (hl _) q) (k _ rfl)
theorem r_goto {o : Int} (X : Sd K T h cl sl) (cx : Cx K y bytes mx rt R) (hd : Db bytes pc (.goto o) o pc' pt) (k : Run K Q T (mkF K.m pt L S)) : Run K Q T (mkF K.m pc L S) := by
  obtain ⟨locs, X0, -⟩ := X; obtain ⟨hx, -, hby, -⟩ := cx; obtain ⟨d, -, ho, hp⟩ := hd
  exact Run.st (fun t q => XS.goto X0.here hx rfl (pc0 := pc) rfl (hb hby d) ho hp q) k
theorem r_icmpeq {o : Int} {a b : Int32} (X : Sd K T h cl sl) (cx : Cx K y bytes mx rt R) (hd : Db bytes pc (.if_icmp .eq o) o pc' pt) (k1 : a = b → Run K Q T (mkF K.m pt L S)) (k2 : ¬ a = b → Run K Q T (mkF K.m pc' L S)) : Run K Q T (mkF K.m pc L (.int b :: .int a :: S)) := by
  obtain ⟨locs, X0, -⟩ := X; obtain ⟨hx, -, hby, -⟩ := cx; obtain ⟨d, rfl, ho, hp⟩ := hd
  by_cases q : a = b
  · exact Run.st (fun t u => XS.icmpYes X0.here hx rfl (pc0 := pc) rfl (hb hby d) rfl (XT.ii_eq_t q) ho hp u) (k1 q)
  · exact Run.st (fun t u => XS.icmpNo X0.here hx rfl (hb hby d) rfl (XT.ii_eq_f q) u) (k2 q)
theorem r_ifeq {o : Int} {a : Int32} (X : Sd K T h cl sl) (cx : Cx K y bytes mx rt R) (hd : Db bytes pc (.ifCond .eq o) o pc' pt) (k1 : a = 0 → Run K Q T (mkF K.m pt L S)) (k2 : ¬ a = 0 → Run K Q T (mkF K.m pc' L S)) : Run K Q T (mkF K.m pc L (.int a :: S)) := by
  obtain ⟨locs, X0, -⟩ := X; obtain ⟨hx, -, hby, -⟩ := cx; obtain ⟨d, rfl, ho, hp⟩ := hd
  by_cases q : a = 0
  · exact Run.st (fun t u => XS.ifYes X0.here hx rfl (pc0 := pc) rfl (hb hby d) rfl (XT.i0_eq_t q) ho hp u) (k1 q)
  · exact Run.st (fun t u => XS.ifNo X0.here hx rfl (hb hby d) rfl (XT.i0_eq_f q) u) (k2 q)
theorem r_lcmpeq {o : Int} {a b : Int64} (X : Sd K T h cl sl) (cx : Cx K y bytes mx rt R) (hd : Db bytes pc (.ifCond .eq o) o pc' pt) (k1 : a = b → Run K Q T (mkF K.m pt L S)) (k2 : ¬ a = b → Run K Q T (mkF K.m pc' L S)) : Run K Q T (mkF K.m pc L (.int (XT.cmpL a b) :: S)) := by
  obtain ⟨locs, X0, -⟩ := X; obtain ⟨hx, -, hby, -⟩ := cx; obtain ⟨d, rfl, ho, hp⟩ := hd
  by_cases q : a = b
  · exact Run.st (fun t u => XS.ifYes X0.here hx rfl (pc0 := pc) rfl (hb hby d) rfl (XT.ll_eq_t q) ho hp u) (k1 q)
  · exact Run.st (fun t u => XS.ifNo X0.here hx rfl (hb hby d) rfl (XT.ll_eq_f q) u) (k2 q)
theorem r_icmpne {o : Int} {a b : Int32} (X : Sd K T h cl sl) (cx : Cx K y bytes mx rt R) (hd : Db bytes pc (.if_icmp .ne o) o pc' pt) (k1 : ¬ a = b → Run K Q T (mkF K.m pt L S)) (k2 : a = b → Run K Q T (mkF K.m pc' L S)) : Run K Q T (mkF K.m pc L (.int b :: .int a :: S)) := by
  obtain ⟨locs, X0, -⟩ := X; obtain ⟨hx, -, hby, -⟩ := cx; obtain ⟨d, rfl, ho, hp⟩ := hd
  by_cases q : a = b
  · exact Run.st (fun t u => XS.icmpNo X0.here hx rfl (hb hby d) rfl (XT.ii_ne_f q) u) (k2 q)
  · exact Run.st (fun t u => XS.icmpYes X0.here hx rfl (pc0 := pc) rfl (hb hby d) rfl (XT.ii_ne_t q) ho hp u) (k1 q)
theorem r_ifne {o : Int} {a : Int32} (X : Sd K T h cl sl) (cx : Cx K y bytes mx rt R) (hd : Db bytes pc (.ifCond .ne o) o pc' pt) (k1 : ¬ a = 0 → Run K Q T (mkF K.m pt L S)) (k2 : a = 0 → Run K Q T (mkF K.m pc' L S)) : Run K Q T (mkF K.m pc L (.int a :: S)) := by
  obtain ⟨locs, X0, -⟩ := X; obtain ⟨hx, -, hby, -⟩ := cx; obtain ⟨d, rfl, ho, hp⟩ := hd
  by_cases q : a = 0
  · exact Run.st (fun t u => XS.ifNo X0.here hx rfl (hb hby d) rfl (XT.i0_ne_f q) u) (k2 q)
  · exact Run.st (fun t u => XS.ifYes X0.here hx rfl (pc0 := pc) rfl (hb hby d) rfl (XT.i0_ne_t q) ho hp u) (k1 q)
theorem r_lcmpne {o : Int} {a b : Int64} (X : Sd K T h cl sl) (cx : Cx K y bytes mx rt R) (hd : Db bytes pc (.ifCond .ne o) o pc' pt) (k1 : ¬ a = b → Run K Q T (mkF K.m pt L S)) (k2 : a = b → Run K Q T (mkF K.m pc' L S)) : Run K Q T (mkF K.m pc L (.int (XT.cmpL a b) :: S)) := by
  obtain ⟨locs, X0, -⟩ := X; obtain ⟨hx, -, hby, -⟩ := cx; obtain ⟨d, rfl, ho, hp⟩ := hd
  by_cases q : a = b
  · exact Run.st (fun t u => XS.ifNo X0.here hx rfl (hb hby d) rfl (XT.ll_ne_f q) u) (k2 q)
  · exact Run.st (fun t u => XS.ifYes X0.here hx rfl (pc0 := pc) rfl (hb hby d) rfl (XT.ll_ne_t q) ho hp u) (k1 q)
theorem r_icmplt {o : Int} {a b : Int32} (X : Sd K T h cl sl) (cx : Cx K y bytes mx rt R) (hd : Db bytes pc (.if_icmp .lt o) o pc' pt) (k1 : a < b → Run K Q T (mkF K.m pt L S)) (k2 : ¬ a < b → Run K Q T (mkF K.m pc' L S)) : Run K Q T (mkF K.m pc L (.int b :: .int a :: S)) := by
  obtain ⟨locs, X0, -⟩ := X; obtain ⟨hx, -, hby, -⟩ := cx; obtain ⟨d, rfl, ho, hp⟩ := hd
  by_cases q : a < b
  · exact Run.st (fun t u => XS.icmpYes X0.here hx rfl (pc0 := pc) rfl (hb hby d) rfl (XT.ii_lt_t q) ho hp u) (k1 q)
  · exact Run.st (fun t u => XS.icmpNo X0.here hx rfl (hb hby d) rfl (XT.ii_lt_f q) u) (k2 q)
theorem r_iflt {o : Int} {a : Int32} (X : Sd K T h cl sl) (cx : Cx K y bytes mx rt R) (hd : Db bytes pc (.ifCond .lt o) o pc' pt) (k1 : a < 0 → Run K Q T (mkF K.m pt L S)) (k2 : ¬ a < 0 → Run K Q T (mkF K.m pc' L S)) : Run K Q T (mkF K.m pc L (.int a :: S)) := by
  obtain ⟨locs, X0, -⟩ := X; obtain ⟨hx, -, hby, -⟩ := cx; obtain ⟨d, rfl, ho, hp⟩ := hd
  by_cases q : a < 0
  · exact Run.st (fun t u => XS.ifYes X0.here hx rfl (pc0 := pc) rfl (hb hby d) rfl (XT.i0_lt_t q) ho hp u) (k1 q)
  · exact Run.st (fun t u => XS.ifNo X0.here hx rfl (hb hby d) rfl (XT.i0_lt_f q) u) (k2 q)
theorem r_lcmplt {o : Int} {a b : Int64} (X : Sd K T h cl sl) (cx : Cx K y bytes mx rt R) (hd : Db bytes pc (.ifCond .lt o) o pc' pt) (k1 : a < b → Run K Q T (mkF K.m pt L S)) (k2 : ¬ a < b → Run K Q T (mkF K.m pc' L S)) : Run K Q T (mkF K.m pc L (.int (XT.cmpL a b) :: S)) := by
  obtain ⟨locs, X0, -⟩ := X; obtain ⟨hx, -, hby, -⟩ := cx; obtain ⟨d, rfl, ho, hp⟩ := hd
  by_cases q : a < b
  · exact Run.st (fun t u => XS.ifYes X0.here hx rfl (pc0 := pc) rfl (hb hby d) rfl (XT.ll_lt_t q) ho hp u) (k1 q)
  · exact Run.st (fun t u => XS.ifNo X0.here hx rfl (hb hby d) rfl (XT.ll_lt_f q) u) (k2 q)
theorem r_icmpge {o : Int} {a b : Int32} (X : Sd K T h cl sl) (cx : Cx K y bytes mx rt R) (hd : Db bytes pc (.if_icmp .ge o) o pc' pt) (k1 : ¬ a < b → Run K Q T (mkF K.m pt L S)) (k2 : a < b → Run K Q T (mkF K.m pc' L S)) : Run K Q T (mkF K.m pc L (.int b :: .int a :: S)) := by
  obtain ⟨locs, X0, -⟩ := X; obtain ⟨hx, -, hby, -⟩ := cx; obtain ⟨d, rfl, ho, hp⟩ := hd
  by_cases q : a < b
  · exact Run.st (fun t u => XS.icmpNo X0.here hx rfl (hb hby d) rfl (XT.ii_ge_f q) u) (k2 q)
  · exact Run.st (fun t u => XS.icmpYes X0.here hx rfl (pc0 := pc) rfl (hb hby d) rfl (XT.ii_ge_t q) ho hp u) (k1 q)
theorem r_ifge {o : Int} {a : Int32} (X : Sd K T h cl sl) (cx : Cx K y bytes mx rt R) (hd : Db bytes pc (.ifCond .ge o) o pc' pt) (k1 : ¬ a < 0 → Run K Q T (mkF K.m pt L S)) (k2 : a < 0 → Run K Q T (mkF K.m pc' L S)) : Run K Q T (mkF K.m pc L (.int a :: S)) := by
  obtain ⟨locs, X0, -⟩ := X; obtain ⟨hx, -, hby, -⟩ := cx; obtain ⟨d, rfl, ho, hp⟩ := hd
  by_cases q : a < 0
  · exact Run.st (fun t u => XS.ifNo X0.here hx rfl (hb hby d) rfl (XT.i0_ge_f q) u) (k2 q)
  · exact Run.st (fun t u => XS.ifYes X0.here hx rfl (pc0 := pc) rfl (hb hby d) rfl (XT.i0_ge_t q) ho hp u) (k1 q)
theorem r_lcmpge {o : Int} {a b : Int64} (X : Sd K T h cl sl) (cx : Cx K y bytes mx rt R) (hd : Db bytes pc (.ifCond .ge o) o pc' pt) (k1 : ¬ a < b → Run K Q T (mkF K.m pt L S)) (k2 : a < b → Run K Q T (mkF K.m pc' L S)) : Run K Q T (mkF K.m pc L (.int (XT.cmpL a b) :: S)) := by
  obtain ⟨locs, X0, -⟩ := X; obtain ⟨hx, -, hby, -⟩ := cx; obtain ⟨d, rfl, ho, hp⟩ := hd
  by_cases q : a < b
  · exact Run.st (fun t u => XS.ifNo X0.here hx rfl (hb hby d) rfl (XT.ll_ge_f q) u) (k2 q)
  · exact Run.st (fun t u => XS.ifYes X0.here hx rfl (pc0 := pc) rfl (hb hby d) rfl (XT.ll_ge_t q) ho hp u) (k1 q)
theorem r_icmpgt {o : Int} {a b : Int32} (X : Sd K T h cl sl) (cx : Cx K y bytes mx rt R) (hd : Db bytes pc (.if_icmp .gt o) o pc' pt) (k1 : b < a → Run K Q T (mkF K.m pt L S)) (k2 : ¬ b < a → Run K Q T (mkF K.m pc' L S)) : Run K Q T (mkF K.m pc L (.int b :: .int a :: S)) := by
  obtain ⟨locs, X0, -⟩ := X; obtain ⟨hx, -, hby, -⟩ := cx; obtain ⟨d, rfl, ho, hp⟩ := hd
  by_cases q : b < a
  · exact Run.st (fun t u => XS.icmpYes X0.here hx rfl (pc0 := pc) rfl (hb hby d) rfl (XT.ii_gt_t q) ho hp u) (k1 q)
  · exact Run.st (fun t u => XS.icmpNo X0.here hx rfl (hb hby d) rfl (XT.ii_gt_f q) u) (k2 q)
theorem r_ifgt {o : Int} {a : Int32} (X : Sd K T h cl sl) (cx : Cx K y bytes mx rt R) (hd : Db bytes pc (.ifCond .gt o) o pc' pt) (k1 : 0 < a → Run K Q T (mkF K.m pt L S)) (k2 : ¬ 0 < a → Run K Q T (mkF K.m pc' L S)) : Run K Q T (mkF K.m pc L (.int a :: S)) := by
  obtain ⟨locs, X0, -⟩ := X; obtain ⟨hx, -, hby, -⟩ := cx; obtain ⟨d, rfl, ho, hp⟩ := hd
  by_cases q : 0 < a
  · exact Run.st (fun t u => XS.ifYes X0.here hx rfl (pc0 := pc) rfl (hb hby d) rfl (XT.i0_gt_t q) ho hp u) (k1 q)
  · exact Run.st (fun t u => XS.ifNo X0.here hx rfl (hb hby d) rfl (XT.i0_gt_f q) u) (k2 q)
theorem r_lcmpgt {o : Int} {a b : Int64} (X : Sd K T h cl sl) (cx : Cx K y bytes mx rt R) (hd : Db bytes pc (.ifCond .gt o) o pc' pt) (k1 : b < a → Run K Q T (mkF K.m pt L S)) (k2 : ¬ b < a → Run K Q T (mkF K.m pc' L S)) : Run K Q T (mkF K.m pc L (.int (XT.cmpL a b) :: S)) := by
  obtain ⟨locs, X0, -⟩ := X; obtain ⟨hx, -, hby, -⟩ := cx; obtain ⟨d, rfl, ho, hp⟩ := hd
  by_cases q : b < a
  · exact Run.st (fun t u => XS.ifYes X0.here hx rfl (pc0 := pc) rfl (hb hby d) rfl (XT.ll_gt_t q) ho hp u) (k1 q)
  · exact Run.st (fun t u => XS.ifNo X0.here hx rfl (hb hby d) rfl (XT.ll_gt_f q) u) (k2 q)
theorem r_icmple {o : Int} {a b : Int32} (X : Sd K T h cl sl) (cx : Cx K y bytes mx rt R) (hd : Db bytes pc (.if_icmp .le o) o pc' pt) (k1 : ¬ b < a → Run K Q T (mkF K.m pt L S)) (k2 : b < a → Run K Q T (mkF K.m pc' L S)) : Run K Q T (mkF K.m pc L (.int b :: .int a :: S)) := by
  obtain ⟨locs, X0, -⟩ := X; obtain ⟨hx, -, hby, -⟩ := cx; obtain ⟨d, rfl, ho, hp⟩ := hd
  by_cases q : b < a
  · exact Run.st (fun t u => XS.icmpNo X0.here hx rfl (hb hby d) rfl (XT.ii_le_f q) u) (k2 q)
  · exact Run.st (fun t u => XS.icmpYes X0.here hx rfl (pc0 := pc) rfl (hb hby d) rfl (XT.ii_le_t q) ho hp u) (k1 q)
theorem r_ifle {o : Int} {a : Int32} (X : Sd K T h cl sl) (cx : Cx K y bytes mx rt R) (hd : Db bytes pc (.ifCond .le o) o pc' pt) (k1 : ¬ 0 < a → Run K Q T (mkF K.m pt L S)) (k2 : 0 < a → Run K Q T (mkF K.m pc' L S)) : Run K Q T (mkF K.m pc L (.int a :: S)) := by
  obtain ⟨locs, X0, -⟩ := X; obtain ⟨hx, -, hby, -⟩ := cx; obtain ⟨d, rfl, ho, hp⟩ := hd
  by_cases q : 0 < a
  · exact Run.st (fun t u => XS.ifNo X0.here hx rfl (hb hby d) rfl (XT.i0_le_f q) u) (k2 q)
  · exact Run.st (fun t u => XS.ifYes X0.here hx rfl (pc0 := pc) rfl (hb hby d) rfl (XT.i0_le_t q) ho hp u) (k1 q)
theorem r_lcmple {o : Int} {a b : Int64} (X : Sd K T h cl sl) (cx : Cx K y bytes mx rt R) (hd : Db bytes pc (.ifCond .le o) o pc' pt) (k1 : ¬ b < a → Run K Q T (mkF K.m pt L S)) (k2 : b < a → Run K Q T (mkF K.m pc' L S)) : Run K Q T (mkF K.m pc L (.int (XT.cmpL a b) :: S)) := by
  obtain ⟨locs, X0, -⟩ := X; obtain ⟨hx, -, hby, -⟩ := cx; obtain ⟨d, rfl, ho, hp⟩ := hd
  by_cases q : b < a
  · exact Run.st (fun t u => XS.ifNo X0.here hx rfl (hb hby d) rfl (XT.ll_le_f q) u) (k2 q)
  · exact Run.st (fun t u => XS.ifYes X0.here hx rfl (pc0 := pc) rfl (hb hby d) rfl (XT.ll_le_t q) ho hp u) (k1 q)
theorem r_ldc {i : Nat} {v : Int32} {a0 : Array Value} (X : Sd K T h cl sl) (cx : Cx K y bytes mx rt R) (hd : Dc bytes pc (.ldc i) 2 pc') (w : (Cond.constant y.cls i v).before a0 K.Z = true) (k : Run K Q T (mkF K.m pc' L (.int v :: S))) : Run K Q T (mkF K.m pc L S) := by
  obtain ⟨locs, X0, -⟩ := X; obtain ⟨hx, hZ, hby, -, hown, -⟩ := cx; obtain ⟨d, rfl⟩ := hd
  exact Run.st (fun t q => Jvm.Stand.ldcI X0 hx hown (mv hZ w) rfl (hb hby d) q) k
theorem r_ldcW {i : Nat} {v : Int32} {a0 : Array Value} (X : Sd K T h cl sl) (cx : Cx K y bytes mx rt R) (hd : Dc bytes pc (.ldc_w i) 3 pc') (w : (Cond.constant y.cls i v).before a0 K.Z = true) (k : Run K Q T (mkF K.m pc' L (.int v :: S))) : Run K Q T (mkF K.m pc L S) := by
  obtain ⟨locs, X0, -⟩ := X; obtain ⟨hx, hZ, hby, -, hown, -⟩ := cx; obtain ⟨d, rfl⟩ := hd
  exact Run.st (fun t q => Jvm.Stand.ldcWI X0 hx hown (mv hZ w) rfl (hb hby d) q) k
theorem r_ldc2 {i : Nat} {v : Int64} {a0 : Array Value} (X : Sd K T h cl sl) (cx : Cx K y bytes mx rt R) (hd : Dc bytes pc (.ldc2_w i) 3 pc') (w : (Cond.constantLong y.cls i v).before a0 K.Z = true) (k : Run K Q T (mkF K.m pc' L (.long v :: S))) : Run K Q T (mkF K.m pc L S) := by
  obtain ⟨locs, X0, -⟩ := X; obtain ⟨hx, hZ, hby, -, hown, -⟩ := cx; obtain ⟨d, rfl⟩ := hd
  exact Run.st (fun t q => Jvm.Stand.ldc2J X0 hx hown (mv hZ w) rfl (hb hby d) q) k
theorem fin {v : Option Value} (X : Sd K T h cl sl) (cx : Cx K y bytes mx rt R) (hv : rt = none → v = none) (hc : cl ≤ R.cells) (hs : sl ≤ R.slots) (hq : Q v h) {g : JFrame}
    (st : ∀ fs, (∀ (f : JFrame) (acts : List Action), f.method = K.m → f.locked = none → f.entered = [] → (doReturn K.e (T.setTop f) acts v).1 = T.setFrames fs) → Steps K.p.tables K.e K.below (T.setTop g) (T.setFrames fs)) : Run K Q T g := by
  obtain ⟨locs, X0, N, hz, eT⟩ := X
  obtain ⟨hx, hZ, hby, hml, hown, hret, hlk, hR, hnm⟩ := cx
  obtain ⟨fs, hr, hrun, hended, hW, hsame⟩ := X0.leave (v := v) (fun q => hv (hret.symm.trans q)) hlk
  refine ⟨_, v, locs, st fs hr, hrun, hended, ?_, N, ⟨_, rfl⟩, hW, hsame.mono (by rw [hR]; exact hc) (by rw [hR]; exact hs)⟩
  show Q v T.heap
  rw [eT]; exact hq
theorem r_ireturn {z : Int32} (X : Sd K T h cl sl) (cx : Cx K y bytes mx (some .int) R) (hd : Dc bytes pc .ireturn 1 pc') (hc : cl ≤ R.cells) (hs : sl ≤ R.slots) (hq : Q (some (.int z)) h) : Run K Q T (mkF K.m pc L (.int z :: S)) := by
  refine fin X cx (fun q => nomatch q) hc hs hq fun fs hr => ?_
  obtain ⟨locs, X0, -⟩ := X; obtain ⟨hx, -, hby, -, -, hret, -⟩ := cx; obtain ⟨d, rfl⟩ := hd
  exact retI X0 hx hret (hb hby d) hr
theorem r_zreturn {z : Int32} (X : Sd K T h cl sl) (cx : Cx K y bytes mx (some .boolean) R) (hd : Dc bytes pc .ireturn 1 pc') (hc : cl ≤ R.cells) (hs : sl ≤ R.slots) (hq : Q (some (.int (nar .boolean z))) h) : Run K Q T (mkF K.m pc L (.int z :: S)) := by
  refine fin X cx (fun q => nomatch q) hc hs hq fun fs hr => ?_
  obtain ⟨locs, X0, -⟩ := X; obtain ⟨hx, -, hby, -, -, hret, -⟩ := cx; obtain ⟨d, rfl⟩ := hd
  exact retN X0 hx (t := .boolean) hret (by simp) (hb hby d) hr
theorem r_lreturn {z : Int64} (X : Sd K T h cl sl) (cx : Cx K y bytes mx (some .long) R) (hd : Dc bytes pc .lreturn 1 pc') (hc : cl ≤ R.cells) (hs : sl ≤ R.slots) (hq : Q (some (.long z)) h) : Run K Q T (mkF K.m pc L [.long z]) := by
  refine fin X cx (fun q => nomatch q) hc hs hq fun fs hr => ?_
  obtain ⟨locs, X0, -⟩ := X; obtain ⟨hx, -, hby, -, -, hret, -⟩ := cx; obtain ⟨d, rfl⟩ := hd
  exact X0.lreturnOut hx hret (hb hby d) hr
theorem r_areturn {z : Addr} {ty : FieldType} (X : Sd K T h cl sl) (cx : Cx K y bytes mx (some ty) R) (hty : ty.isReference = true) (hd : Dc bytes pc .areturn 1 pc') (hc : cl ≤ R.cells) (hs : sl ≤ R.slots) (hq : Q (some (.ref z)) h) : Run K Q T (mkF K.m pc L [.ref z]) := by
  refine fin X cx (fun q => nomatch q) hc hs hq fun fs hr => ?_
  obtain ⟨locs, X0, -⟩ := X; obtain ⟨hx, -, hby, -, -, hret, -⟩ := cx; obtain ⟨d, rfl⟩ := hd
  exact X0.areturnOut hx rfl hret hty (hb hby d) hr
theorem r_return (X : Sd K T h cl sl) (cx : Cx K y bytes mx none R) (hd : Dc bytes pc .return_ 1 pc') (hc : cl ≤ R.cells) (hs : sl ≤ R.slots) (hq : Q none h) : Run K Q T (mkF K.m pc L []) := by
  refine fin X cx (fun _ => rfl) hc hs hq fun fs hr => ?_
  obtain ⟨locs, X0, -⟩ := X; obtain ⟨hx, -, hby, -, -, hret, -⟩ := cx; obtain ⟨d, rfl⟩ := hd
  exact X0.returnOut hx hret (hb hby d) hr
/-! fields -/
theorem r_getfield {O n d : String} {i : Nat} {a : Addr} {v : Value} {a0 : Array Value} (X : Sd K T h cl sl) (cx : Cx K y bytes mx rt R) (hd : Dc bytes pc (.getfield i) 3 pc') (w : (Cond.fieldLink y.cls i O n d).before a0 K.Z = true) (F : Fld K.Z h a O n d v) (k : ∀ T', Sd K T' h cl sl → Run K Q T' (mkF K.m pc' L (v :: S))) : Run K Q T (mkF K.m pc L (.ref a :: S)) := by
  obtain ⟨locs, X0, N, hz, eT⟩ := X; obtain ⟨hx, hZ, hby, -, hown, -⟩ := cx; obtain ⟨dd, rfl⟩ := hd
  obtain ⟨T1, X1, e1, st1⟩ := getF X0 hx hZ hown (host := "") (Or.inl w) Via.refl eT F (g := mkF K.m pc L (.ref a :: S)) rfl rfl (hb hby dd)
  exact Run.st st1 (k T1 ⟨locs, X1, N, hz, e1⟩)
theorem r_getfieldN {O n d host : String} {i : Nat} {a : Addr} {v : Value} {a0 : Array Value} (X : Sd K T h cl sl) (cx : Cx K y bytes mx rt R) (hd : Dc bytes pc (.getfield i) 3 pc') (w : (Cond.fieldLinkNest y.cls i O n d host).before a0 K.Z = true) (F : Fld K.Z h a O n d v) (k : ∀ T', Sd K T' h cl sl → Run K Q T' (mkF K.m pc' L (v :: S))) : Run K Q T (mkF K.m pc L (.ref a :: S)) := by
  obtain ⟨locs, X0, N, hz, eT⟩ := X; obtain ⟨hx, hZ, hby, -, hown, -⟩ := cx; obtain ⟨dd, rfl⟩ := hd
  obtain ⟨T1, X1, e1, st1⟩ := getF X0 hx hZ hown (host := host) (Or.inr w) Via.refl eT F (g := mkF K.m pc L (.ref a :: S)) rfl rfl (hb hby dd)
  exact Run.st st1 (k T1 ⟨locs, X1, N, hz, e1⟩)
theorem r_putfield {O n d C : String} {i kk : Nat} {a : Addr} {v old : Value} {ty : FieldType} {a0 : Array Value} (X : Sd K T h cl sl) (cx : Cx K y bytes mx rt R) (hd : Dc bytes pc (.putfield i) 3 pc') (w : (Cond.fieldLink y.cls i O n d).before a0 K.Z = true) (F : Fld K.Z h a O n d old) (E : Exa K.Z h a C) (hL : (Cond.lays C O n d).before a0 K.Z = true ∨ ((Cond.laysFinal C O n d).before a0 K.Z = true ∧ y.cls = O ∧ y.name = "<init>")) (wi : (Cond.instantiable C kk).before a0 K.Z = true)
    (hty : parseFieldDescriptor d = some ty) (hn : narrow ty v = v) (hf : fits ty v = true) (ge : K.n0 ≤ a) (k : ∀ T' h', Sd K T' h' cl sl → Wr h h' a (Jvm.RoadKit.slotOf K.Z O n d) v → Fld K.Z h' a O n d v → Run K Q T' (mkF K.m pc' L S)) : Run K Q T (mkF K.m pc L (v :: .ref a :: S)) := by
  obtain ⟨locs, X0, N, hz, eT⟩ := X; obtain ⟨hx, hZ, hby, -, hown, -, -, -, hnm⟩ := cx; obtain ⟨dd, rfl⟩ := hd
  obtain ⟨T1, h1, X1, e1, W1, st1⟩ := putF X0 hx hZ hown (host := "") (Or.inl w) Via.refl eT F E (hL.imp id fun q => ⟨q.1, q.2.1, hnm.trans q.2.2⟩) wi hty hn hf (g := mkF K.m pc L (v :: .ref a :: S)) rfl rfl (hb hby dd)
  exact Run.st st1 (k T1 h1 ⟨_, X1, Fr.snoc X1 N ge, by rw [W1.size]; exact hz, e1⟩ W1 (F.same W1))
theorem r_new {C : String} {i n : Nat} {a0 : Array Value} (X : Sd K T h cl sl) (cx : Cx K y bytes mx rt R) (hd : Dc bytes pc (.new i) 3 pc') (w : (Cond.classLink y.cls i C).before a0 K.Z = true) (wi : (Cond.instantiable C n).before a0 K.Z = true) (wz : (Cond.initialized C).before a0 K.Z = true) (hc : cl + 1 ≤ R.cells) (hs : sl + n ≤ R.slots)
    (k : ∀ T' h' a, a = h.size → K.n0 ≤ a → Sd K T' h' (cl + 1) (sl + n) → Ext h h' → Exa K.Z h' a C → (∀ {O nm d : String} {ty : FieldType}, Laid K.Z a0 C O nm d → parseFieldDescriptor d = some ty → Fld K.Z h' a O nm d (defaultValue ty)) → Run K Q T' (mkF K.m pc' L (.ref a :: S))) : Run K Q T (mkF K.m pc L S) := by
  obtain ⟨locs, X0, N, hz, eT⟩ := X; obtain ⟨hx, hZ, hby, -, hown, -, -, hR, -⟩ := cx; obtain ⟨dd, rfl⟩ := hd
  obtain ⟨T1, h1, X1, e1, E1, A1, D1, -, st1⟩ := newO X0 hx hZ hown w wi wz eT (g := mkF K.m pc L S) rfl (hb hby dd) (by rw [hR]; exact hc) (by rw [hR]; exact hs)
  exact Run.st st1 (k T1 h1 h.size rfl hz ⟨locs, X1, N, Nat.le_trans hz E1.1, e1⟩ E1 A1 D1)
theorem r_initO {i : Nat} {a : Addr} {a0 : Array Value} (X : Sd K T h cl sl) (cx : Cx K y bytes mx rt R) (hd : Dc bytes pc (.invokespecial i) 3 pc') (w1 : (Cond.methodLink y.cls i Lib.objectInit).before a0 K.Z = true) (w2 : (Cond.instanceMethod Lib.objectInit).before a0 K.Z = true) (w3 : (Cond.code Lib.objectInit ⟨#[0xb1]⟩ 1 none).before a0 K.Z = true) (hsz : L.size = mx) (hf : 1 ≤ R.frames) (hl : (S.map fun v => v.category).sum + 12 ≤ R.locals) (k : ∀ T', Sd K T' h cl sl → Run K Q T' (mkF K.m pc' L S)) : Run K Q T (mkF K.m pc L (.ref a :: S)) := by
  obtain ⟨locs, X0, N, hz, eT⟩ := X; obtain ⟨hx, hZ, hby, hml, hown, -, -, hR, -⟩ := cx; obtain ⟨dd, rfl⟩ := hd
  obtain ⟨T1, X1, e1, st1⟩ := initO X0 hx hZ hown w1 w2 w3 eT (g := mkF K.m pc L (.ref a :: S)) rfl (by rw [hml]; exact hsz) rfl (hb hby dd) (by rw [hR]; exact hf) (W := (S.map fun v => v.category).sum) (by show 2 * 0 + _ ≤ _; omega) (by rw [hR]; exact hl)
  exact Run.st st1 (k T1 ⟨locs, X1, N, hz, e1⟩)
end Rules
/-! arrays: their whole list of values -/
def AV (Z : State) (h : Heap) (a : Addr) (ty : FieldType) (vs : List Value) : Prop := ∃ c : Cell, Arr Z h a c ty ∧ c.slots.toList = vs ∧ vs.length < 2 ^ 31
def AI (ty : FieldType) (Z : State) (h : Heap) (a : Addr) (xs : List Int32) : Prop := AV Z h a ty (xs.map Value.int)
def AJ (Z : State) (h : Heap) (a : Addr) (xs : List Int64) : Prop := AV Z h a .long (xs.map Value.long)
theorem AV.ext {Z : State} {h h' : Heap} {a : Addr} {ty : FieldType} {vs : List Value} (A : AV Z h a ty vs) (E : Ext h h') : AV Z h' a ty vs := by obtain ⟨c, q, r⟩ := A; exact ⟨c, q.ext E, r⟩
theorem AV.other {Z : State} {h h' : Heap} {a b : Addr} {ty : FieldType} {vs : List Value} {sl : Nat} {v : Value} (A : AV Z h a ty vs) (W : Wr h h' b sl v) (q : a ≠ b) : AV Z h' a ty vs := by obtain ⟨c, u, r⟩ := A; exact ⟨c, u.other W q, r⟩
theorem AV.keep {Z : State} {h h' : Heap} {a : Addr} {ty : FieldType} {vs : List Value} {ws : List Addr} (A : AV Z h a ty vs) (k : Keep h h' ws) (q : a ∉ ws) : AV Z h' a ty vs := by obtain ⟨c, u, r⟩ := A; exact ⟨c, ⟨k.2.1 a c u.1 q, u.2⟩, r⟩
theorem AV.lt {Z : State} {h : Heap} {a : Addr} {ty : FieldType} {vs : List Value} (A : AV Z h a ty vs) : a < h.size := by obtain ⟨c, u, r⟩ := A; exact u.lt
theorem AV.len {Z : State} {h : Heap} {a : Addr} {ty : FieldType} {vs : List Value} (A : AV Z h a ty vs) : vs.length < 2 ^ 31 := by obtain ⟨c, u, r, q⟩ := A; exact q
theorem AV.set {Z : State} {h h' : Heap} {a : Addr} {ty : FieldType} {vs : List Value} {n : Nat} {v : Value} (A : AV Z h a ty vs) (W : Wr h h' a n v) : AV Z h' a ty (vs.set n v) := by
  obtain ⟨c, u, r, q⟩ := A
  refine ⟨_, u.same W, ?_, by simpa using q⟩
  subst r
  simp [Cell.setSlot]
section
variable {ty : FieldType} {Z : State} {h h' : Heap} {a b : Addr} {xs : List Int32} {zs : List Int64} {sl : Nat} {v : Value} {ws : List Addr}
theorem AI.ext (A : AI ty Z h a xs) (E : Ext h h') : AI ty Z h' a xs := AV.ext A E
theorem AI.other (A : AI ty Z h a xs) (W : Wr h h' b sl v) (q : a ≠ b) : AI ty Z h' a xs := AV.other A W q
theorem AI.keep (A : AI ty Z h a xs) (k : Keep h h' ws) (q : a ∉ ws) : AI ty Z h' a xs := AV.keep A k q
theorem AI.lt (A : AI ty Z h a xs) : a < h.size := AV.lt A
theorem AI.len (A : AI ty Z h a xs) : xs.length < 2 ^ 31 := by simpa using AV.len A
theorem AI.set {n : Nat} {x : Int32} (A : AI ty Z h a xs) (W : Wr h h' a n (.int x)) : AI ty Z h' a (xs.set n x) := by
  have q := AV.set A W
  show AV Z h' a ty ((xs.set n x).map Value.int)
  rw [List.map_set]; exact q
theorem AJ.ext (A : AJ Z h a zs) (E : Ext h h') : AJ Z h' a zs := AV.ext A E
theorem AJ.other (A : AJ Z h a zs) (W : Wr h h' b sl v) (q : a ≠ b) : AJ Z h' a zs := AV.other A W q
theorem AJ.keep (A : AJ Z h a zs) (k : Keep h h' ws) (q : a ∉ ws) : AJ Z h' a zs := AV.keep A k q
theorem AJ.lt (A : AJ Z h a zs) : a < h.size := AV.lt A
theorem AJ.len (A : AJ Z h a zs) : zs.length < 2 ^ 31 := by simpa using AV.len A
theorem AJ.set {n : Nat} {x : Int64} (A : AJ Z h a zs) (W : Wr h h' a n (.long x)) : AJ Z h' a (zs.set n x) := by
  have q := AV.set A W
  show AV Z h' a .long ((zs.set n x).map Value.long)
  rw [List.map_set]; exact q
end
theorem ofNat_neg {n : Nat} (hn : n < 2 ^ 31) : ¬ Int32.ofNat n < 0 := by
  rw [Int32.lt_iff_toInt_lt, Int32.toInt_ofNat_of_lt hn]
  show ¬ (n : Int) < 0
  omega
theorem ofNat_clamp {n : Nat} (hn : n < 2 ^ 31) : (Int32.ofNat n).toNatClampNeg = n := by
  show (Int32.ofNat n).toInt.toNat = n
  rw [Int32.toInt_ofNat_of_lt hn]; rfl
section Rules
variable {K : KT} {Q : Option Value → Heap → Prop} {T : State} {h : Heap} {cl sl : Nat} {y : MethodName} {bytes : ByteArray} {mx : Nat} {rt : Option FieldType} {R : Room} {pc pc' pt : Nat} {L : Array Slot} {S : List Value}
theorem r_arraylength {ty : FieldType} {vs : List Value} {a : Addr} (X : Sd K T h cl sl) (cx : Cx K y bytes mx rt R) (hd : Dc bytes pc .arraylength 1 pc') (A : AV K.Z h a ty vs) (k : Run K Q T (mkF K.m pc' L (.int (Int32.ofNat vs.length) :: S))) : Run K Q T (mkF K.m pc L (.ref a :: S)) := by
  obtain ⟨locs, X0, N, hz, eT⟩ := X; obtain ⟨hx, hZ, hby, -, hown, -⟩ := cx; obtain ⟨dd, rfl⟩ := hd
  obtain ⟨c, Ar, hc, hlen⟩ := A
  have hs : c.slots.size = vs.length := by rw [← hc]; simp
  refine Run.st (X0.arraylength hx (cell := c) (by rw [eT]; exact Ar.1) (State.isArrayOf_alike hZ.alike Ar.2.1) (g := mkF K.m pc L (.ref a :: S)) rfl (rest := S) rfl (hb hby dd)) ?_
  rw [hs]; exact k
theorem r_alen {ty : FieldType} {xs : List Int32} {a : Addr} (X : Sd K T h cl sl) (cx : Cx K y bytes mx rt R) (hd : Dc bytes pc .arraylength 1 pc') (A : AI ty K.Z h a xs) (n : Nat) (hn : xs.length = n) (k : Run K Q T (mkF K.m pc' L (.int (Int32.ofNat n) :: S))) : Run K Q T (mkF K.m pc L (.ref a :: S)) :=
  r_arraylength X cx hd A (by rw [List.length_map, hn]; exact k)
theorem r_alenJ {xs : List Int64} {a : Addr} (X : Sd K T h cl sl) (cx : Cx K y bytes mx rt R) (hd : Dc bytes pc .arraylength 1 pc') (A : AJ K.Z h a xs) (n : Nat) (hn : xs.length = n) (k : Run K Q T (mkF K.m pc' L (.int (Int32.ofNat n) :: S))) : Run K Q T (mkF K.m pc L (.ref a :: S)) :=
  r_arraylength X cx hd A (by rw [List.length_map, hn]; exact k)
theorem r_iaload {xs : List Int32} {a : Addr} {j : Int32} {v : Int32} (X : Sd K T h cl sl) (cx : Cx K y bytes mx rt R) (hd : Dc bytes pc .iaload 1 pc') (A : AI .int K.Z h a xs) (n : Nat) (hj : j = Int32.ofNat n) (hv : xs[n]? = some v) (k : Run K Q T (mkF K.m pc' L (.int v :: S))) : Run K Q T (mkF K.m pc L (.int j :: .ref a :: S)) := by
  obtain ⟨locs, X0, N, hz, eT⟩ := X; obtain ⟨hx, hZ, hby, -, hown, -⟩ := cx; obtain ⟨dd, rfl⟩ := hd
  obtain ⟨c, Ar, hc, hlen⟩ := A
  have hs : c.slots.size = xs.length := by have := congrArg List.length hc; simpa using this
  have hl : n < xs.length := (List.getElem?_eq_some_iff.mp hv).1
  have hn : n < 2 ^ 31 := by simp at hlen; omega
  subst hj
  have e1 := ofNat_clamp hn
  have hat : c.slots[(Int32.ofNat n).toNatClampNeg]? = some (.int v) := by
    rw [e1, ← Array.getElem?_toList, hc, List.getElem?_map, hv]; rfl
  exact Run.st (X0.iaload hx (cell := c) (by rw [eT]; exact Ar.1) (State.isArrayOf_alike hZ.alike Ar.2.1) Ar.2.2 (by rw [e1, hs]; intro q; rcases q with q | q; exact ofNat_neg hn q; omega) hat (g := mkF K.m pc L (.int (Int32.ofNat n) :: .ref a :: S)) rfl rfl (hb hby dd)) k
theorem r_saload {xs : List Int32} {a : Addr} {j : Int32} {v : Int32} (X : Sd K T h cl sl) (cx : Cx K y bytes mx rt R) (hd : Dc bytes pc .saload 1 pc') (A : AI .short K.Z h a xs) (n : Nat) (hj : j = Int32.ofNat n) (hv : xs[n]? = some v) (k : Run K Q T (mkF K.m pc' L (.int v :: S))) : Run K Q T (mkF K.m pc L (.int j :: .ref a :: S)) := by
  obtain ⟨locs, X0, N, hz, eT⟩ := X; obtain ⟨hx, hZ, hby, -, hown, -⟩ := cx; obtain ⟨dd, rfl⟩ := hd
  obtain ⟨c, Ar, hc, hlen⟩ := A
  have hs : c.slots.size = xs.length := by have := congrArg List.length hc; simpa using this
  have hl : n < xs.length := (List.getElem?_eq_some_iff.mp hv).1
  have hn : n < 2 ^ 31 := by simp at hlen; omega
  subst hj
  have e1 := ofNat_clamp hn
  have hat : c.slots[(Int32.ofNat n).toNatClampNeg]? = some (.int v) := by
    rw [e1, ← Array.getElem?_toList, hc, List.getElem?_map, hv]; rfl
  exact Run.st (X0.saload hx (cell := c) (by rw [eT]; exact Ar.1) (State.isArrayOf_alike hZ.alike Ar.2.1) Ar.2.2 (by rw [e1, hs]; intro q; rcases q with q | q; exact ofNat_neg hn q; omega) hat (g := mkF K.m pc L (.int (Int32.ofNat n) :: .ref a :: S)) rfl rfl (hb hby dd)) k
theorem r_baload {xs : List Int32} {a : Addr} {j : Int32} {v : Int32} (X : Sd K T h cl sl) (cx : Cx K y bytes mx rt R) (hd : Dc bytes pc .baload 1 pc') (A : AI .byte K.Z h a xs) (n : Nat) (hj : j = Int32.ofNat n) (hv : xs[n]? = some v) (k : Run K Q T (mkF K.m pc' L (.int v :: S))) : Run K Q T (mkF K.m pc L (.int j :: .ref a :: S)) := by
  obtain ⟨locs, X0, N, hz, eT⟩ := X; obtain ⟨hx, hZ, hby, -, hown, -⟩ := cx; obtain ⟨dd, rfl⟩ := hd
  obtain ⟨c, Ar, hc, hlen⟩ := A
  have hs : c.slots.size = xs.length := by have := congrArg List.length hc; simpa using this
  have hl : n < xs.length := (List.getElem?_eq_some_iff.mp hv).1
  have hn : n < 2 ^ 31 := by simp at hlen; omega
  subst hj
  have e1 := ofNat_clamp hn
  have hat : c.slots[(Int32.ofNat n).toNatClampNeg]? = some (.int v) := by
    rw [e1, ← Array.getElem?_toList, hc, List.getElem?_map, hv]; rfl
  exact Run.st (X0.baloadBytes hx (cell := c) (by rw [eT]; exact Ar.1) (State.isArrayOf_alike hZ.alike Ar.2.1) Ar.2.2 (by rw [e1, hs]; intro q; rcases q with q | q; exact ofNat_neg hn q; omega) hat (g := mkF K.m pc L (.int (Int32.ofNat n) :: .ref a :: S)) rfl rfl (hb hby dd)) k
theorem r_laload {xs : List Int64} {a : Addr} {j : Int32} {v : Int64} (X : Sd K T h cl sl) (cx : Cx K y bytes mx rt R) (hd : Dc bytes pc .laload 1 pc') (A : AJ K.Z h a xs) (n : Nat) (hj : j = Int32.ofNat n) (hv : xs[n]? = some v) (k : Run K Q T (mkF K.m pc' L (.long v :: S))) : Run K Q T (mkF K.m pc L (.int j :: .ref a :: S)) := by
  obtain ⟨locs, X0, N, hz, eT⟩ := X; obtain ⟨hx, hZ, hby, -, hown, -⟩ := cx; obtain ⟨dd, rfl⟩ := hd
  obtain ⟨c, Ar, hc, hlen⟩ := A
  have hs : c.slots.size = xs.length := by have := congrArg List.length hc; simpa using this
  have hl : n < xs.length := (List.getElem?_eq_some_iff.mp hv).1
  have hn : n < 2 ^ 31 := by simp at hlen; omega
  subst hj
  have e1 := ofNat_clamp hn
  have hat : c.slots[(Int32.ofNat n).toNatClampNeg]? = some (.long v) := by
    rw [e1, ← Array.getElem?_toList, hc, List.getElem?_map, hv]; rfl
  exact Run.st (X0.laload hx (cell := c) (by rw [eT]; exact Ar.1) (State.isArrayOf_alike hZ.alike Ar.2.1) Ar.2.2 (by rw [e1, hs]; intro q; rcases q with q | q; exact ofNat_neg hn q; omega) hat (g := mkF K.m pc L (.int (Int32.ofNat n) :: .ref a :: S)) rfl rfl (hb hby dd)) k
theorem r_iastore {xs : List Int32} {a : Addr} {j : Int32} {x : Int32} (X : Sd K T h cl sl) (cx : Cx K y bytes mx rt R) (hd : Dc bytes pc .iastore 1 pc') (A : AI .int K.Z h a xs) (n : Nat) (hj : j = Int32.ofNat n) (hl : n < xs.length) (ge : K.n0 ≤ a) (k : ∀ T' h', Sd K T' h' cl sl → Wr h h' a n (.int x) → AI .int K.Z h' a (xs.set n x) → Run K Q T' (mkF K.m pc' L S)) : Run K Q T (mkF K.m pc L (.int x :: .int j :: .ref a :: S)) := by
  obtain ⟨locs, X0, N, hz, eT⟩ := X; obtain ⟨hx, hZ, hby, -, hown, -⟩ := cx; obtain ⟨dd, rfl⟩ := hd
  have A0 := A
  obtain ⟨c, Ar, hc, hlen⟩ := A
  have hs : c.slots.size = xs.length := by have := congrArg List.length hc; simpa using this
  have hn : n < 2 ^ 31 := by simp at hlen; omega
  subst hj
  have e1 := ofNat_clamp hn
  obtain ⟨T1, h1, X1, eh1, W1, st1⟩ := stI X0 hx hZ eT Ar (j := Int32.ofNat n) (x := x) (by rw [e1, hs]; intro q; rcases q with q | q; exact ofNat_neg hn q; omega) (g := mkF K.m pc L (.int x :: .int (Int32.ofNat n) :: .ref a :: S)) rfl rfl (hb hby dd)
  have hz1 : K.n0 ≤ h1.size := by rw [W1.size]; exact hz
  have N1 := Fr.snoc X1 N ge
  rw [e1] at W1
  exact Run.st st1 (k T1 h1 ⟨_, X1, N1, hz1, eh1⟩ W1 (AI.set A0 W1))
theorem r_sastore {xs : List Int32} {a : Addr} {j : Int32} {x : Int32} (X : Sd K T h cl sl) (cx : Cx K y bytes mx rt R) (hd : Dc bytes pc .sastore 1 pc') (A : AI .short K.Z h a xs) (n : Nat) (hj : j = Int32.ofNat n) (hl : n < xs.length) (ge : K.n0 ≤ a) (k : ∀ T' h', Sd K T' h' cl sl → Wr h h' a n (.int (nar .short x)) → AI .short K.Z h' a (xs.set n (nar .short x)) → Run K Q T' (mkF K.m pc' L S)) : Run K Q T (mkF K.m pc L (.int x :: .int j :: .ref a :: S)) := by
  obtain ⟨locs, X0, N, hz, eT⟩ := X; obtain ⟨hx, hZ, hby, -, hown, -⟩ := cx; obtain ⟨dd, rfl⟩ := hd
  have A0 := A
  obtain ⟨c, Ar, hc, hlen⟩ := A
  have hs : c.slots.size = xs.length := by have := congrArg List.length hc; simpa using this
  have hn : n < 2 ^ 31 := by simp at hlen; omega
  subst hj
  have e1 := ofNat_clamp hn
  obtain ⟨T1, h1, X1, eh1, W1, st1⟩ := stS X0 hx hZ eT Ar (j := Int32.ofNat n) (x := x) (by rw [e1, hs]; intro q; rcases q with q | q; exact ofNat_neg hn q; omega) (g := mkF K.m pc L (.int x :: .int (Int32.ofNat n) :: .ref a :: S)) rfl rfl (hb hby dd)
  have hz1 : K.n0 ≤ h1.size := by rw [W1.size]; exact hz
  have N1 := Fr.snoc X1 N ge
  rw [e1] at W1
  exact Run.st st1 (k T1 h1 ⟨_, X1, N1, hz1, eh1⟩ W1 (AI.set A0 W1))
theorem r_bastore {xs : List Int32} {a : Addr} {j : Int32} {x : Int32} (X : Sd K T h cl sl) (cx : Cx K y bytes mx rt R) (hd : Dc bytes pc .bastore 1 pc') (A : AI .byte K.Z h a xs) (n : Nat) (hj : j = Int32.ofNat n) (hl : n < xs.length) (ge : K.n0 ≤ a) (k : ∀ T' h', Sd K T' h' cl sl → Wr h h' a n (.int (nar .byte x)) → AI .byte K.Z h' a (xs.set n (nar .byte x)) → Run K Q T' (mkF K.m pc' L S)) : Run K Q T (mkF K.m pc L (.int x :: .int j :: .ref a :: S)) := by
  obtain ⟨locs, X0, N, hz, eT⟩ := X; obtain ⟨hx, hZ, hby, -, hown, -⟩ := cx; obtain ⟨dd, rfl⟩ := hd
  have A0 := A
  obtain ⟨c, Ar, hc, hlen⟩ := A
  have hs : c.slots.size = xs.length := by have := congrArg List.length hc; simpa using this
  have hn : n < 2 ^ 31 := by simp at hlen; omega
  subst hj
  have e1 := ofNat_clamp hn
  obtain ⟨T1, h1, X1, eh1, W1, st1⟩ := stB X0 hx hZ eT Ar (j := Int32.ofNat n) (x := x) (by rw [e1, hs]; intro q; rcases q with q | q; exact ofNat_neg hn q; omega) (g := mkF K.m pc L (.int x :: .int (Int32.ofNat n) :: .ref a :: S)) rfl rfl (hb hby dd)
  have hz1 : K.n0 ≤ h1.size := by rw [W1.size]; exact hz
  have N1 := Fr.snoc X1 N ge
  rw [e1] at W1
  exact Run.st st1 (k T1 h1 ⟨_, X1, N1, hz1, eh1⟩ W1 (AI.set A0 W1))
theorem r_lastore {xs : List Int64} {a : Addr} {j : Int32} {x : Int64} (X : Sd K T h cl sl) (cx : Cx K y bytes mx rt R) (hd : Dc bytes pc .lastore 1 pc') (A : AJ K.Z h a xs) (n : Nat) (hj : j = Int32.ofNat n) (hl : n < xs.length) (ge : K.n0 ≤ a) (k : ∀ T' h', Sd K T' h' cl sl → Wr h h' a n (.long x) → AJ K.Z h' a (xs.set n x) → Run K Q T' (mkF K.m pc' L S)) : Run K Q T (mkF K.m pc L (.long x :: .int j :: .ref a :: S)) := by
  obtain ⟨locs, X0, N, hz, eT⟩ := X; obtain ⟨hx, hZ, hby, -, hown, -⟩ := cx; obtain ⟨dd, rfl⟩ := hd
  have A0 := A
  obtain ⟨c, Ar, hc, hlen⟩ := A
  have hs : c.slots.size = xs.length := by have := congrArg List.length hc; simpa using this
  have hn : n < 2 ^ 31 := by simp at hlen; omega
  subst hj
  have e1 := ofNat_clamp hn
  obtain ⟨T1, h1, X1, eh1, W1, st1⟩ := stJ X0 hx hZ eT Ar (j := Int32.ofNat n) (x := x) (by rw [e1, hs]; intro q; rcases q with q | q; exact ofNat_neg hn q; omega) (g := mkF K.m pc L (.long x :: .int (Int32.ofNat n) :: .ref a :: S)) rfl rfl (hb hby dd)
  have hz1 : K.n0 ≤ h1.size := by rw [W1.size]; exact hz
  have N1 := Fr.snoc X1 N ge
  rw [e1] at W1
  exact Run.st st1 (k T1 h1 ⟨_, X1, N1, hz1, eh1⟩ W1 (AJ.set A0 W1))
theorem r_newarray {aty : ArrayType} {a0 : Array Value} {z : Int32} (X : Sd K T h cl sl) (cx : Cx K y bytes mx rt R) (hd : Dc bytes pc (.newarray aty) 2 pc') (w : (Cond.arrayClass (newarray.typeOf aty)).before a0 K.Z = true) (n cap : Nat) (hj : z = Int32.ofNat n) (hcap : n ≤ cap) (hb8 : cap * 8 ≤ 536870912) (hc : cl + 1 ≤ R.cells) (hs : sl + cap ≤ R.slots)
    (k : ∀ T' h' a, a = h.size → K.n0 ≤ a → Sd K T' h' (cl + 1) (sl + cap) → Ext h h' → AV K.Z h' a (newarray.typeOf aty) (List.replicate n (defaultValue (newarray.typeOf aty))) → Run K Q T' (mkF K.m pc' L (.ref a :: S))) : Run K Q T (mkF K.m pc L (.int z :: S)) := by
  obtain ⟨locs, X0, N, hz, eT⟩ := X; obtain ⟨hx, hZ, hby, -, hown, -, -, hR, -⟩ := cx; obtain ⟨dd, rfl⟩ := hd
  have hn : n < 2 ^ 31 := by omega
  subst hj
  have e1 := ofNat_clamp hn
  obtain ⟨T1, h1, cA, X1, eh1, E1, A1, st1⟩ := newP X0 hx hZ w eT (g := mkF K.m pc L (.int (Int32.ofNat n) :: S)) rfl (hb hby dd) (n := Int32.ofNat n) rfl (ofNat_neg hn) (cap := cap) (by rw [e1]; exact hcap) hb8 (by rw [hR]; exact hc) (by rw [hR]; exact hs)
  refine Run.st st1 (k T1 h1 h.size rfl hz ⟨locs, X1, N, Nat.le_trans hz E1.1, eh1⟩ E1 ⟨_, A1, ?_, by simpa using hn⟩)
  simp [newA, e1]
theorem AI.new {ty : FieldType} {Z : State} {h : Heap} {a : Addr} {n : Nat} (A : AV Z h a ty (List.replicate n (.int 0))) : AI ty Z h a (List.replicate n 0) := by
  show AV Z h a ty _
  rw [List.map_replicate]; exact A
theorem AJ.new {Z : State} {h : Heap} {a : Addr} {n : Nat} (A : AV Z h a .long (List.replicate n (.long 0))) : AJ Z h a (List.replicate n 0) := by
  show AV Z h a .long _
  rw [List.map_replicate]; exact A
end Rules
/-! contracts and calls -/
def Con (l : Launch) (Z : State) (y : MethodName) (bytes : ByteArray) (mx : Nat) (rt : Option FieldType) (rm : Room) (as : Array Value) (h0 : Heap) (n0 : Nat) (Q : Option Value → Heap → Prop) : Prop :=
  ∀ ws, MetFree l y (head1 (Jvm.Cond.code y bytes mx rt :: ws) rm) (fun a U => a = as ∧ Z.Warmed39 U.vm ∧ U.heap = h0) (fun _ _ _ _ _ => True) (fun _ U o U' => ∃ v L, o = .returned v ∧ (Q v U'.heap ∧ Fr n0 L) ∧ FrameEnd U o U' L rm.cells rm.slots)
theorem Con.of {l : Launch} {Z : State} {y : MethodName} {bytes : ByteArray} {mx : Nat} {rt : Option FieldType} {rm : Room} {as : Array Value} {h0 : Heap} {n0 : Nat} {Q : Option Value → Heap → Prop} (hy : plainFor y = true) (Z0 : n0 ≤ h0.size)
    (body : ∀ K : KT, K.l = l → K.Z = Z → K.n0 = n0 → Cx K y bytes mx rt rm → ∀ T, Sd K T h0 0 0 → Run K Q T (entryFrame K.m as mx)) : Con l Z y bytes mx rt rm as h0 n0 Q := by
  intro ws
  refine MetFree.of_bodySF hy hisR ?_
  intro p e s m args below meth c s₁ Bd hml0 hP hK
  obtain ⟨rfl, hZ, hh⟩ := hP
  have hown : s.vm.findClass y.cls = some m.cls := findClass_of_methodNamed Bd.named
  have hnm := (name_of_methodNamed Bd.named Bd.method).1
  have X0 : Stand p l e rm s m args below meth c s₁ [] 0 0 := Stand.of_body Bd
  have e0 : s₁.heap = h0 := by rw [← hh, Bd.state]; rfl
  obtain ⟨s₂, v, L, h1, h2, h3, h4, h5, h6⟩ := body (p, l, e, rm, s, m, args, below, meth, c, Z, n0) rfl rfl rfl ⟨Bd.exec, hZ, Bd.bytes, hml0, hown, Bd.returns, Bd.notSynchronized, rfl, hnm⟩ s₁ ⟨[], X0, Fr.nil n0, Z0, e0⟩
  exact ⟨s₂, _, h1, h2, h3, v, L, rfl, ⟨h4, h5⟩, h6⟩
section Calls
variable {K : KT} {Q : Option Value → Heap → Prop} {T : State} {h : Heap} {cl sl : Nat} {y : MethodName} {bytes : ByteArray} {mx : Nat} {rt : Option FieldType} {R : Room} {pc pc' pt : Nat} {L : Array Slot}
theorem r_static {z : MethodName} {zb : ByteArray} {zm : Nat} {zr : Option FieldType} {rm : Room} {i : Nat} {a0 : Array Value} {Qz : Option Value → Heap → Prop} {St : List Value} (argsL rest : List Value) (X : Sd K T h cl sl) (cx : Cx K y bytes mx rt R) (hd : Dc bytes pc (.invokestatic i) 3 pc')
    (w1 : (Cond.methodLink y.cls i z).before a0 K.Z = true) (w2 : (Cond.static z).before a0 K.Z = true) (w3 : (Cond.initialized z.cls).before a0 K.Z = true) (w4 : (Cond.code z zb zm zr).before a0 K.Z = true) (hm : z.cls ≠ "java/lang/invoke/MethodHandle" ∧ z.cls ≠ "java/lang/invoke/VarHandle")
    (con : Con K.l K.Z z zb zm zr rm argsL.toArray h K.n0 Qz) (hpd : ∀ sig, parseMethodDescriptor z.desc = some sig → argsL.length = sig.parameters.length) (hSt : St = argsL.reverse ++ rest) (hsz : L.size = mx) (hf : rm.frames + 1 ≤ R.frames) (hl : (rest.map fun v => v.category).sum + (zm + 11) + rm.locals ≤ R.locals) (hc : cl + rm.cells ≤ R.cells) (hs : sl + rm.slots ≤ R.slots)
    (k : ∀ T' h' v, Sd K T' h' (cl + rm.cells) (sl + rm.slots) → Qz v h' → Run K Q T' (mkF K.m pc' L (v.toList ++ rest))) (hmono : ∀ v h', Qz v h' → h.size ≤ h'.size) : Run K Q T (mkF K.m pc L St) := by
  obtain ⟨locs, X0, N, hz, eT⟩ := X; obtain ⟨hx, hZ, hby, hml, hown, -, -, hR, -⟩ := cx; obtain ⟨dd, rfl⟩ := hd
  obtain ⟨v, _, ⟨T1, L1, k1, n1⟩, -, X1, ⟨Lc, ⟨hQ, hF⟩, l1, y1, z1⟩, st1⟩ := Jvm.LawKit.callS X0 hx (y := z) hown (mvT hZ w1) (mvT hZ w2) (mvT hZ w3) (mvT hZ w4) hm (backOf (W := (rest.map fun v => v.category).sum) (Q := fun v h L => Qz v h ∧ Fr K.n0 L) (con []) hZ w4 w3 (by rw [hR]; exact hf) (by rw [hR]; exact hl)) (g := mkF K.m pc L St) rfl (by rw [hml]; exact hsz) (argsL := argsL) (rest := rest) hpd hSt (by show 2 * 0 + _ ≤ _; omega) (hb hby dd) (fun _ _ => ⟨rfl, eT, by rw [hR]; exact hc, by rw [hR]; exact hs⟩)
  dsimp only [Pt.U, Pt.locs, Pt.cells, Pt.slots] at X1 l1 y1 z1 st1 hQ
  subst l1 y1 z1
  exact Run.st st1 (k T1 _ v ⟨_, X1, Fr.app N hF, Nat.le_trans hz (hmono _ _ hQ), rfl⟩ hQ)
theorem r_virtual {z : MethodName} {C : String} {zb : ByteArray} {zm : Nat} {zr : Option FieldType} {rm : Room} {i : Nat} {a : Addr} {a0 : Array Value} {Qz : Option Value → Heap → Prop} {St : List Value} (argsL rest : List Value) (X : Sd K T h cl sl) (cx : Cx K y bytes mx rt R) (hd : Dc bytes pc (.invokevirtual i) 3 pc') (E : Exa K.Z h a C)
    (w1 : (Cond.methodLink y.cls i z).before a0 K.Z = true) (w2 : (Cond.declares z).before a0 K.Z = true) (w3 : (Cond.selects C z z).before a0 K.Z = true) (w4 : (Cond.instanceMethod z).before a0 K.Z = true) (w5 : (Cond.initialized z.cls).before a0 K.Z = true) (w6 : (Cond.code z zb zm zr).before a0 K.Z = true) (hm : z.cls ≠ "java/lang/invoke/MethodHandle" ∧ z.cls ≠ "java/lang/invoke/VarHandle")
    (con : Con K.l K.Z z zb zm zr rm (.ref a :: argsL).toArray h K.n0 Qz) (hpd : ∀ sig, parseMethodDescriptor z.desc = some sig → argsL.length = sig.parameters.length) (hSt : St = argsL.reverse ++ .ref a :: rest) (hsz : L.size = mx) (hf : rm.frames + 1 ≤ R.frames) (hl : (rest.map fun v => v.category).sum + (zm + 11) + rm.locals ≤ R.locals) (hc : cl + rm.cells ≤ R.cells) (hs : sl + rm.slots ≤ R.slots)
    (k : ∀ T' h' v, Sd K T' h' (cl + rm.cells) (sl + rm.slots) → Qz v h' → Run K Q T' (mkF K.m pc' L (v.toList ++ rest))) (hmono : ∀ v h', Qz v h' → h.size ≤ h'.size) : Run K Q T (mkF K.m pc L St) := by
  obtain ⟨locs, X0, N, hz, eT⟩ := X; obtain ⟨hx, hZ, hby, hml, hown, -, -, hR, -⟩ := cx; obtain ⟨dd, rfl⟩ := hd
  obtain ⟨cq, kq, qa, qb, qc⟩ := isOf hZ eT E
  obtain ⟨v, _, ⟨T1, L1, k1, n1⟩, -, X1, ⟨Lc, ⟨hQ, hF⟩, l1, y1, z1⟩, st1⟩ := X0.virtualBack hx (y := z) (z := z) hown (mvT hZ w1) (mvT hZ w2) (notFace_of_selects (args := #[]) (mvT hZ w3)) (mvT hZ w3) (mvT hZ w4) hm (backOf (W := (rest.map fun v => v.category).sum) (Q := fun v h L => Qz v h ∧ Fr K.n0 L) (con []) hZ w6 w5 (by rw [hR]; exact hf) (by rw [hR]; exact hl)) qa qc (g := mkF K.m pc L St) rfl (by rw [hml]; exact hsz) (Steps.refl _) (argsL := argsL) (rest := rest) hpd hSt (by show 2 * 0 + _ ≤ _; omega) (hb hby dd) (fun _ _ => ⟨rfl, eT, by rw [hR]; exact hc, by rw [hR]; exact hs⟩)
  dsimp only [Pt.U, Pt.locs, Pt.cells, Pt.slots] at X1 l1 y1 z1 st1 hQ
  subst l1 y1 z1
  exact Run.st (fun t q => st1.trans q) (k T1 _ v ⟨_, X1, Fr.app N hF, Nat.le_trans hz (hmono _ _ hQ), rfl⟩ hQ)
theorem r_private {z z' : MethodName} {C C' : String} {zb : ByteArray} {zm : Nat} {zr : Option FieldType} {rm : Room} {i : Nat} {a : Addr} {a0 : Array Value} {Qz : Option Value → Heap → Prop} {St : List Value} (argsL rest : List Value) (X : Sd K T h cl sl) (cx : Cx K y bytes mx rt R) (hd : Dc bytes pc (.invokevirtual i) 3 pc') (E : Exa K.Z h a C)
    (w1 : (Cond.methodLink y.cls i z).before a0 K.Z = true) (w2 : (Cond.selects C' z' z').before a0 K.Z = true) (w3 : (Cond.instanceMethod z).before a0 K.Z = true) (w4 : (Cond.privateMethod z).before a0 K.Z = true) (w5 : (Cond.initialized z.cls).before a0 K.Z = true) (w6 : (Cond.code z zb zm zr).before a0 K.Z = true) (hzz : z'.cls = z.cls) (hm : z.cls ≠ "java/lang/invoke/MethodHandle" ∧ z.cls ≠ "java/lang/invoke/VarHandle")
    (con : Con K.l K.Z z zb zm zr rm (.ref a :: argsL).toArray h K.n0 Qz) (hpd : ∀ sig, parseMethodDescriptor z.desc = some sig → argsL.length = sig.parameters.length) (hSt : St = argsL.reverse ++ .ref a :: rest) (hsz : L.size = mx) (hf : rm.frames + 1 ≤ R.frames) (hl : (rest.map fun v => v.category).sum + (zm + 11) + rm.locals ≤ R.locals) (hc : cl + rm.cells ≤ R.cells) (hs : sl + rm.slots ≤ R.slots)
    (k : ∀ T' h' v, Sd K T' h' (cl + rm.cells) (sl + rm.slots) → Qz v h' → Run K Q T' (mkF K.m pc' L (v.toList ++ rest))) (hmono : ∀ v h', Qz v h' → h.size ≤ h'.size) : Run K Q T (mkF K.m pc L St) := by
  obtain ⟨locs, X0, N, hz, eT⟩ := X; obtain ⟨hx, hZ, hby, hml, hown, -, -, hR, -⟩ := cx; obtain ⟨dd, rfl⟩ := hd
  obtain ⟨cq, qa, qb⟩ := E.cell
  have u2 : (Cond.selects C' z' z').before K.args K.s = true := mvT hZ w2
  have u3 : (Cond.instanceMethod z).before K.args K.s = true := mvT hZ w3
  obtain ⟨c2, r2, m2, q1, q2, q3, q4, kP, hkP, hkPi⟩ := Cond.selects_spec u2
  have hc2 := findClass_of_methodNamed q3
  rw [hzz] at hc2
  have hpriv := Cond.privateMethod_at (mvP hZ w4 (args := K.args))
  have hsel := selects_self_of_private hc2 hkP hkPi hpriv u3 hm
  obtain ⟨v, _, ⟨T1, L1, k1, n1⟩, -, X1, ⟨Lc, ⟨hQ, hF⟩, l1, y1, z1⟩, st1⟩ := X0.privateBack hx (y := z) hown (mvT hZ w1) u3 hsel hpriv (mvT hZ w6) hm (backOf (W := (rest.map fun v => v.category).sum) (Q := fun v h L => Qz v h ∧ Fr K.n0 L) (con []) hZ w6 w5 (by rw [hR]; exact hf) (by rw [hR]; exact hl)) (g := mkF K.m pc L St) rfl (by rw [hml]; exact hsz) (Steps.refl _) (a := a) (by rw [eT]; exact qa) qb (argsL := argsL) (rest := rest) hpd hSt (by show 2 * 0 + _ ≤ _; omega) (hb hby dd) (fun _ _ => ⟨rfl, eT, by rw [hR]; exact hc, by rw [hR]; exact hs⟩)
  dsimp only [Pt.U, Pt.locs, Pt.cells, Pt.slots] at X1 l1 y1 z1 st1 hQ
  subst l1 y1 z1
  exact Run.st (fun t q => st1.trans q) (k T1 _ v ⟨_, X1, Fr.app N hF, Nat.le_trans hz (hmono _ _ hQ), rfl⟩ hQ)
theorem r_special {z : MethodName} {zb : ByteArray} {zm : Nat} {rm : Room} {i : Nat} {a : Addr} {a0 : Array Value} {Qz : Option Value → Heap → Prop} {St : List Value} (argsL rest : List Value) (X : Sd K T h cl sl) (cx : Cx K y bytes mx rt R) (hd : Dc bytes pc (.invokespecial i) 3 pc') (hzn : z.name = "<init>")
    (w1 : (Cond.methodLink y.cls i z).before a0 K.Z = true) (w2 : (Cond.instanceMethod z).before a0 K.Z = true) (w3 : (Cond.initialized z.cls).before a0 K.Z = true) (w4 : (Cond.code z zb zm none).before a0 K.Z = true) (hm : z.cls ≠ "java/lang/invoke/MethodHandle" ∧ z.cls ≠ "java/lang/invoke/VarHandle")
    (con : Con K.l K.Z z zb zm none rm (.ref a :: argsL).toArray h K.n0 Qz) (hpd : ∀ sig, parseMethodDescriptor z.desc = some sig → argsL.length = sig.parameters.length) (hSt : St = argsL.reverse ++ .ref a :: rest) (hsz : L.size = mx) (hf : rm.frames + 1 ≤ R.frames) (hl : (rest.map fun v => v.category).sum + (zm + 11) + rm.locals ≤ R.locals) (hc : cl + rm.cells ≤ R.cells) (hs : sl + rm.slots ≤ R.slots)
    (k : ∀ T' h' v, Sd K T' h' (cl + rm.cells) (sl + rm.slots) → Qz v h' → Run K Q T' (mkF K.m pc' L (v.toList ++ rest))) (hmono : ∀ v h', Qz v h' → h.size ≤ h'.size) : Run K Q T (mkF K.m pc L St) := by
  obtain ⟨locs, X0, N, hz, eT⟩ := X; obtain ⟨hx, hZ, hby, hml, hown, -, -, hR, -⟩ := cx; obtain ⟨dd, rfl⟩ := hd
  obtain ⟨v, _, ⟨T1, L1, k1, n1⟩, -, X1, ⟨Lc, ⟨hQ, hF⟩, l1, y1, z1⟩, st1⟩ := X0.specialBack hx (y := z) hzn hown (mvT hZ w1) (mvT hZ w2) (mvT hZ w4) hm (backOf (W := (rest.map fun v => v.category).sum) (Q := fun v h L => Qz v h ∧ Fr K.n0 L) (con []) hZ w4 w3 (by rw [hR]; exact hf) (by rw [hR]; exact hl)) (g := mkF K.m pc L St) rfl (by rw [hml]; exact hsz) (Steps.refl _) (a := a) (argsL := argsL) (rest := rest) hpd hSt (by show 2 * 0 + _ ≤ _; omega) (hb hby dd) (fun _ _ => ⟨rfl, eT, by rw [hR]; exact hc, by rw [hR]; exact hs⟩)
  dsimp only [Pt.U, Pt.locs, Pt.cells, Pt.slots] at X1 l1 y1 z1 st1 hQ
  subst l1 y1 z1
  exact Run.st (fun t q => st1.trans q) (k T1 _ v ⟨_, X1, Fr.app N hF, Nat.le_trans hz (hmono _ _ hQ), rfl⟩ hQ)
end Calls
end Jvm.Own
namespace Jvm.Pilot.@@N@@
open Jvm Jvm.ClassFile Sem Op Lib Jvm.Free Jvm.Stand Jvm.LawKit Jvm.RoadKit Bundle Jvm.Own Jvm.Pilot.@@N@@.Jvm.D
theorem pd_0 : parseMethodDescriptor "(I)I" = some ⟨[.int], some (.int)⟩ := by decide +kernel
theorem pd_1 : parseMethodDescriptor "(I)V" = some ⟨[.int], none⟩ := by decide +kernel
theorem pd_2 : parseMethodDescriptor "(II)Z" = some ⟨[.int, .int], some (.boolean)⟩ := by decide +kernel
theorem pd_3 : parseMethodDescriptor "([III)Z" = some ⟨[.array .int, .int, .int], some (.boolean)⟩ := by decide +kernel
theorem pd_4 : parseMethodDescriptor "([I[II)Z" = some ⟨[.array .int, .array .int, .int], some (.boolean)⟩ := by decide +kernel
theorem pd_5 : parseMethodDescriptor "([I[III)Z" = some ⟨[.array .int, .array .int, .int, .int], some (.boolean)⟩ := by decide +kernel
def own_i (xs : List Nat) : List Int32 := xs.map Int32.ofNat
def DS (Z : State) (n0 : Nat) (h : Heap) (o ap az : Addr) (ps ss : List Nat) : Prop :=
  Exa Z h o "com/example/lacewood/lacewood/spanning/DisjointSets" ∧ Fld Z h o "com/example/lacewood/lacewood/spanning/DisjointSets" "parent" "[I" (.ref ap) ∧ Fld Z h o "com/example/lacewood/lacewood/spanning/DisjointSets" "size" "[I" (.ref az) ∧ AI .int Z h ap (own_i ps) ∧ AI .int Z h az (own_i ss) ∧ o ≠ ap ∧ o ≠ az ∧ ap ≠ az ∧ n0 ≤ o ∧ n0 ≤ ap ∧ n0 ≤ az
def own_root : Nat → List Nat → Nat → List Nat × Nat × Bool
  | 0, ps, a => (ps, a, false)
  | k + 1, ps, a => if ps.getD a 0 = a then (ps, a, true) else own_root k (ps.set a (ps.getD (ps.getD a 0) 0)) (ps.getD (ps.getD a 0) 0)
def own_union (ps ss : List Nat) (a b : Nat) : List Nat × List Nat × Bool × Bool :=
  let A := own_root 9 ps a
  let B := own_root 9 A.1 b
  if A.2.1 = B.2.1 then (B.1, ss, false, A.2.2 && B.2.2)
  else if ss.getD A.2.1 0 < ss.getD B.2.1 0 then (B.1.set A.2.1 B.2.1, ss.set B.2.1 (ss.getD B.2.1 0 + ss.getD A.2.1 0), true, A.2.2 && B.2.2)
  else (B.1.set B.2.1 A.2.1, ss.set A.2.1 (ss.getD A.2.1 0 + ss.getD B.2.1 0), true, A.2.2 && B.2.2)
def own_st (rs : List Nat) (i rb ra : Nat) : List Nat := if rs.getD i 0 = rb then rs.set i ra else rs
def own_model (rs : List Nat) (a b : Nat) : List Nat × Bool :=
  if rs.getD a 0 = rs.getD b 0 then (rs, false)
  else (own_st (own_st (own_st (own_st rs 1 (rs.getD b 0) (rs.getD a 0)) 2 (rs.getD b 0) (rs.getD a 0)) 3 (rs.getD b 0) (rs.getD a 0)) 4 (rs.getD b 0) (rs.getD a 0), true)
def own_mem (rs os : List Nat) (v : Nat) : Bool := 1 ≤ os.getD v 0 && os.getD v 0 ≤ 4 && rs.getD (os.getD v 0) 0 == rs.getD v 0
def own_pair (rs os : List Nat) (u v : Nat) : Bool := (os.getD u 0 == os.getD v 0) == (rs.getD u 0 == rs.getD v 0)
def own_ok (xs : List Nat) : Bool := xs.length == 5 && xs.all (fun x => x < 5)
def own_x (ps os : List Nat) (x : Nat) : Bool :=
  let B := own_root 9 ps x
  let D := own_root 9 B.1 (os.getD x 0)
  B.2.2 && B.2.1 == os.getD x 0 && D.2.2 && D.2.1 == os.getD x 0
def own_c3 (ps rs : List Nat) : Bool :=
  let A1 := own_root 9 ps 1
  let A2 := own_root 9 A1.1 2
  let A3 := own_root 9 A2.1 3
  let A4 := own_root 9 A3.1 4
  let os := [0, A1.2.1, A2.2.1, A3.2.1, A4.2.1]
  A1.2.2 && A2.2.2 && A3.2.2 && A4.2.2 && own_mem rs os 1 && own_mem rs os 2 && own_mem rs os 3 && own_mem rs os 4 && own_pair rs os 1 2 && own_pair rs os 1 3 && own_pair rs os 1 4 && own_pair rs os 2 3 && own_pair rs os 2 4 && own_pair rs os 3 4 &&
    [1, 2, 3, 4].all (own_x A4.1 os)
def own_s (ps ss rs : List Nat) (a b : Nat) (next : List Nat → List Nat → List Nat → Bool) : Bool :=
  let U := own_union ps ss a b
  let M := own_model rs a b
  U.2.2.2 && U.2.2.1 == M.2 && own_ok U.2.1 && own_ok M.1 && next U.1 U.2.1 M.1
def own_c2 (ps ss rs : List Nat) : Bool := [1, 2, 3, 4].all fun a => [1, 2, 3, 4].all fun b => own_s ps ss rs a b (fun p _ r => own_c3 p r)
def own_c1 (ps ss rs : List Nat) : Bool := [1, 2, 3, 4].all fun a => [1, 2, 3, 4].all fun b => own_s ps ss rs a b own_c2
def own_c0 (ps ss rs : List Nat) : Bool := [1, 2, 3, 4].all fun a => [1, 2, 3, 4].all fun b => own_s ps ss rs a b own_c1
theorem own_all : own_c0 [0, 1, 2, 3, 4] [0, 1, 1, 1, 1] [0, 1, 2, 3, 4] = true := by decide +kernel
theorem own_in4 {v : Nat} (h1 : 1 ≤ v) (h2 : v ≤ 4) : v ∈ [1, 2, 3, 4] := by
  have : v = 1 ∨ v = 2 ∨ v = 3 ∨ v = 4 := by omega
  rcases this with rfl | rfl | rfl | rfl <;> simp
theorem own_len (xs : List Nat) : (own_i xs).length = xs.length := by unfold own_i; simp
theorem own_iset (xs : List Nat) (n v : Nat) : (own_i xs).set n (Int32.ofNat v) = own_i (xs.set n v) := by unfold own_i; rw [List.map_set]
theorem own_get {xs : List Nat} {n : Nat} (h : n < xs.length) : (own_i xs)[n]? = some (Int32.ofNat (xs.getD n 0)) := by
  unfold own_i
  rw [List.getElem?_map, List.getD_eq_getElem?_getD, List.getElem?_eq_getElem h]; rfl
theorem own_okl {xs : List Nat} (h : own_ok xs = true) : xs.length = 5 := by
  unfold own_ok at h; simp at h; exact h.1
theorem own_okg {xs : List Nat} (h : own_ok xs = true) (n : Nat) : xs.getD n 0 < 5 := by
  unfold own_ok at h
  simp only [Bool.and_eq_true, List.all_eq_true, decide_eq_true_eq] at h
  rw [List.getD_eq_getElem?_getD]
  cases q : xs[n]? with
  | none => simp
  | some y => exact h.2 y (List.mem_of_getElem? q)
theorem own_okset {xs : List Nat} (h : own_ok xs = true) (n : Nat) {v : Nat} (hv : v < 5) : own_ok (xs.set n v) = true := by
  unfold own_ok at h ⊢
  simp only [Bool.and_eq_true, List.all_eq_true, decide_eq_true_eq, List.length_set] at h ⊢
  refine ⟨h.1, fun y hy => ?_⟩
  rcases List.mem_or_eq_of_mem_set hy with q | q
  · exact h.2 y q
  · omega
theorem own_rok : ∀ (k : Nat) (ps : List Nat) (a : Nat), own_ok ps = true → a < 5 → own_ok (own_root k ps a).1 = true ∧ (own_root k ps a).2.1 < 5
  | 0, ps, a, h, ha => ⟨h, ha⟩
  | k + 1, ps, a, h, ha => by
    unfold own_root
    split
    · exact ⟨h, ha⟩
    · exact own_rok k _ _ (own_okset h _ (own_okg h _)) (own_okg h _)
theorem own_inj {a b : Nat} (ha : a < 5) (hb : b < 5) : Int32.ofNat a = Int32.ofNat b ↔ a = b := by
  rw [← Int32.toInt_inj, Int32.toInt_ofNat_of_lt (by omega), Int32.toInt_ofNat_of_lt (by omega)]
  omega
theorem own_ltn {a b : Nat} (ha : a < 10) (hb : b < 10) : Int32.ofNat a < Int32.ofNat b ↔ a < b := by
  rw [Int32.lt_iff_toInt_lt, Int32.toInt_ofNat_of_lt (by omega), Int32.toInt_ofNat_of_lt (by omega)]
  omega
theorem P71m1_0 : Dc prog_71_method_1_code 0 (.aload_n 0) 1 1 := ⟨(by decide +kernel), rfl⟩
theorem P71m1_1 : Dc prog_71_method_1_code 1 (.invokespecial 1) 3 4 := ⟨(by decide +kernel), rfl⟩
theorem P71m1_4 : Dc prog_71_method_1_code 4 (.aload_n 0) 1 5 := ⟨(by decide +kernel), rfl⟩
theorem P71m1_5 : Dc prog_71_method_1_code 5 (.iload_n 1) 1 6 := ⟨(by decide +kernel), rfl⟩
theorem P71m1_6 : Dc prog_71_method_1_code 6 (.iconst 1) 1 7 := ⟨(by decide +kernel), rfl⟩
theorem P71m1_7 : Dc prog_71_method_1_code 7 (.iadd) 1 8 := ⟨(by decide +kernel), rfl⟩
theorem P71m1_8 : Dc prog_71_method_1_code 8 (.newarray .int) 2 10 := ⟨(by decide +kernel), rfl⟩
theorem P71m1_10 : Dc prog_71_method_1_code 10 (.putfield 7) 3 13 := ⟨(by decide +kernel), rfl⟩
theorem P71m1_13 : Dc prog_71_method_1_code 13 (.aload_n 0) 1 14 := ⟨(by decide +kernel), rfl⟩
theorem P71m1_14 : Dc prog_71_method_1_code 14 (.iload_n 1) 1 15 := ⟨(by decide +kernel), rfl⟩
theorem P71m1_15 : Dc prog_71_method_1_code 15 (.iconst 1) 1 16 := ⟨(by decide +kernel), rfl⟩
theorem P71m1_16 : Dc prog_71_method_1_code 16 (.iadd) 1 17 := ⟨(by decide +kernel), rfl⟩
theorem P71m1_17 : Dc prog_71_method_1_code 17 (.newarray .int) 2 19 := ⟨(by decide +kernel), rfl⟩
theorem P71m1_19 : Dc prog_71_method_1_code 19 (.putfield 13) 3 22 := ⟨(by decide +kernel), rfl⟩
theorem P71m1_22 : Dc prog_71_method_1_code 22 (.iconst 1) 1 23 := ⟨(by decide +kernel), rfl⟩
theorem P71m1_23 : Dc prog_71_method_1_code 23 (.istore_n 2) 1 24 := ⟨(by decide +kernel), rfl⟩
theorem P71m1_24 : Dc prog_71_method_1_code 24 (.iload_n 2) 1 25 := ⟨(by decide +kernel), rfl⟩
theorem P71m1_25 : Dc prog_71_method_1_code 25 (.iload_n 1) 1 26 := ⟨(by decide +kernel), rfl⟩
theorem P71m1_26 : Db prog_71_method_1_code 26 (.if_icmp .gt 23) (23) 29 49 := ⟨(by decide +kernel), rfl, by decide, by decide⟩
theorem P71m1_29 : Dc prog_71_method_1_code 29 (.aload_n 0) 1 30 := ⟨(by decide +kernel), rfl⟩
theorem P71m1_30 : Dc prog_71_method_1_code 30 (.getfield 7) 3 33 := ⟨(by decide +kernel), rfl⟩
theorem P71m1_33 : Dc prog_71_method_1_code 33 (.iload_n 2) 1 34 := ⟨(by decide +kernel), rfl⟩
theorem P71m1_34 : Dc prog_71_method_1_code 34 (.iload_n 2) 1 35 := ⟨(by decide +kernel), rfl⟩
theorem P71m1_35 : Dc prog_71_method_1_code 35 (.iastore) 1 36 := ⟨(by decide +kernel), rfl⟩
theorem P71m1_36 : Dc prog_71_method_1_code 36 (.aload_n 0) 1 37 := ⟨(by decide +kernel), rfl⟩
theorem P71m1_37 : Dc prog_71_method_1_code 37 (.getfield 13) 3 40 := ⟨(by decide +kernel), rfl⟩
theorem P71m1_40 : Dc prog_71_method_1_code 40 (.iload_n 2) 1 41 := ⟨(by decide +kernel), rfl⟩
theorem P71m1_41 : Dc prog_71_method_1_code 41 (.iconst 1) 1 42 := ⟨(by decide +kernel), rfl⟩
theorem P71m1_42 : Dc prog_71_method_1_code 42 (.iastore) 1 43 := ⟨(by decide +kernel), rfl⟩
theorem P71m1_43 : Dc prog_71_method_1_code 43 (.iinc 2 1) 3 46 := ⟨(by decide +kernel), rfl⟩
theorem P71m1_46 : Db prog_71_method_1_code 46 (.goto (-22)) (-22) 49 24 := ⟨(by decide +kernel), rfl, by decide, by decide⟩
theorem P71m1_49 : Dc prog_71_method_1_code 49 (.return_) 1 50 := ⟨(by decide +kernel), rfl⟩
theorem ef_P71m1 (m : MethodId) (o : Addr) : entryFrame m #[(.ref o), (.int (4 : Int32))] 3 = mkF m 0 #[.val (.ref o), .val (.int (4 : Int32)), .unset] [] := by first | (simp [entryFrame, mkF, argsToLocals, Value.category]; done) | rfl
set_option maxRecDepth 65536 in
set_option maxHeartbeats 40000000 in
theorem con_P71m1 (l : Launch) (Z : State) (a0 : Array Value) (hw : Tb tables_1 a0 Z) (o : Addr) (h0 : Heap) (n0 : Nat) (Z0 : n0 ≤ h0.size) (E_o : Exa Z h0 o "com/example/lacewood/lacewood/spanning/DisjointSets") (F_parent : Fld Z h0 o "com/example/lacewood/lacewood/spanning/DisjointSets" "parent" "[I" .null) (F_size : Fld Z h0 o "com/example/lacewood/lacewood/spanning/DisjointSets" "size" "[I" .null) (g_o : n0 ≤ o) :
    Con l Z (⟨"com/example/lacewood/lacewood/spanning/DisjointSets", "<init>", "(I)V"⟩ : MethodName) prog_71_method_1_code 3 (none) ({ frames := 1, cells := 2, slots := 10, locals := 12 } : Room) #[(.ref o), (.int (4 : Int32))] h0 n0 (fun u h => h0.size ≤ h.size ∧ u = none ∧ ∃ ap az, DS Z n0 h o ap az [0, 1, 2, 3, 4] [0, 1, 1, 1, 1]) := by
  refine Con.of (plainFor_of_name (by decide +kernel)) Z0 ?_
  intro K hl hZ hn cx T0 X0
  subst hl hZ hn
  refine Run.cast (ef_P71m1 K.m o) ?_
  have Kp : Keep h0 h0 [o] := Keep.refl _ _
  refine r_aloadN X0 cx P71m1_0 rfl ?_
  refine r_initO X0 cx P71m1_1 (hw.get 6 rfl) (hw.get 7 rfl) (hw.get 8 rfl) rfl (by decide) (leb rfl) (fun T1 X1 => ?_)
  refine r_aloadN X1 cx P71m1_4 rfl ?_
  refine r_iloadN X1 cx P71m1_5 rfl ?_
  refine r_iconst (1) X1 cx P71m1_6 rfl ?_
  refine r_iadd X1 cx P71m1_7 ?_
  refine r_top (v' := 5) (by decide) ?_
  refine r_newarray X1 cx P71m1_8 (hw.get 9 rfl) (5) 5 rfl (Nat.le_refl _) (by decide) (by decide) (by decide) (fun T2 h2 ap ea2 g_ap X2 Ex2 A2 => ?_)
  have fr_ap : h0.size ≤ ap := fr_new ea2 Kp.1
  replace Kp := Kp.ext Ex2
  have ne_ap_o : ap ≠ o := ne_new ea2 E_o.lt
  replace F_parent := F_parent.ext Ex2
  replace F_size := F_size.ext Ex2
  replace E_o := E_o.ext Ex2
  have A_ap : AI .int K.Z h2 ap [0, 0, 0, 0, 0] := AI.new A2
  refine r_putfield X2 cx P71m1_10 (hw.get 10 rfl) F_parent E_o (Or.inr ⟨(hw.get 11 rfl), rfl, rfl⟩) (hw.get 1 rfl) (ty := .array .int) (by decide) rfl rfl g_o (fun T3 h3 X3 W3 N3 => ?_)
  replace Kp := Kp.wr W3 (Or.inl (by simp))
  replace F_size := F_size.other W3 (Or.inr (slot_ne (Or.inr (hw.get 13 rfl)) (Or.inr (hw.get 11 rfl)) (by decide) (t := .array .int) (t' := .array .int) (by decide) (by decide)))
  replace E_o := E_o.wr W3
  replace A_ap := A_ap.other W3 ne_ap_o
  have F_parent := N3
  refine r_aloadN X3 cx P71m1_13 rfl ?_
  refine r_iloadN X3 cx P71m1_14 rfl ?_
  refine r_iconst (1) X3 cx P71m1_15 rfl ?_
  refine r_iadd X3 cx P71m1_16 ?_
  refine r_top (v' := 5) (by decide) ?_
  refine r_newarray X3 cx P71m1_17 (hw.get 9 rfl) (5) 5 rfl (Nat.le_refl _) (by decide) (by decide) (by decide) (fun T4 h4 az ea4 g_az X4 Ex4 A4 => ?_)
  have fr_az : h0.size ≤ az := fr_new ea4 Kp.1
  replace Kp := Kp.ext Ex4
  have ne_az_o : az ≠ o := ne_new ea4 E_o.lt
  have ne_az_ap : az ≠ ap := ne_new ea4 A_ap.lt
  replace F_parent := F_parent.ext Ex4
  replace F_size := F_size.ext Ex4
  replace E_o := E_o.ext Ex4
  replace A_ap := A_ap.ext Ex4
  have A_az : AI .int K.Z h4 az [0, 0, 0, 0, 0] := AI.new A4
  refine r_putfield X4 cx P71m1_19 (hw.get 12 rfl) F_size E_o (Or.inr ⟨(hw.get 13 rfl), rfl, rfl⟩) (hw.get 1 rfl) (ty := .array .int) (by decide) rfl rfl g_o (fun T5 h5 X5 W5 N5 => ?_)
  replace Kp := Kp.wr W5 (Or.inl (by simp))
  replace F_parent := F_parent.other W5 (Or.inr (slot_ne (Or.inr (hw.get 11 rfl)) (Or.inr (hw.get 13 rfl)) (by decide) (t := .array .int) (t' := .array .int) (by decide) (by decide)))
  replace E_o := E_o.wr W5
  replace A_ap := A_ap.other W5 ne_ap_o
  replace A_az := A_az.other W5 ne_az_o
  have F_size := N5
  refine r_iconst (1) X5 cx P71m1_22 rfl ?_
  refine r_istoreN (fun zz => #[.val (.ref o), .val (.int (4 : Int32)), .val (.int zz)]) X5 cx P71m1_23 (fun _ => rfl) (fun i6 e_i6 => ?_)
  subst e_i6
  refine r_iloadN X5 cx P71m1_24 rfl ?_
  refine r_iloadN X5 cx P71m1_25 rfl ?_
  refine r_icmpgt X5 cx P71m1_26 (fun c => absurd c (by decide)) (fun _ => ?_)
  refine r_aloadN X5 cx P71m1_29 rfl ?_
  refine r_getfield X5 cx P71m1_30 (hw.get 10 rfl) F_parent (fun T7 X7 => ?_)
  refine r_iloadN X7 cx P71m1_33 rfl ?_
  refine r_iloadN X7 cx P71m1_34 rfl ?_
  refine r_iastore X7 cx P71m1_35 A_ap (1) rfl (ltb rfl) g_ap (fun T8 h8 X8 W8 N8 => ?_)
  replace Kp := Kp.wr W8 (Or.inr fr_ap)
  replace F_parent := F_parent.other W8 (Or.inl ne_ap_o.symm)
  replace F_size := F_size.other W8 (Or.inl ne_ap_o.symm)
  replace E_o := E_o.wr W8
  replace A_az := A_az.other W8 ne_az_ap
  have A_ap : AI .int K.Z h8 ap [0, (1 : Int32), 0, 0, 0] := N8
  refine r_aloadN X8 cx P71m1_36 rfl ?_
  refine r_getfield X8 cx P71m1_37 (hw.get 12 rfl) F_size (fun T9 X9 => ?_)
  refine r_iloadN X9 cx P71m1_40 rfl ?_
  refine r_iconst (1) X9 cx P71m1_41 rfl ?_
  refine r_iastore X9 cx P71m1_42 A_az (1) rfl (ltb rfl) g_az (fun T10 h10 X10 W10 N10 => ?_)
  replace Kp := Kp.wr W10 (Or.inr fr_az)
  replace F_parent := F_parent.other W10 (Or.inl ne_az_o.symm)
  replace F_size := F_size.other W10 (Or.inl ne_az_o.symm)
  replace E_o := E_o.wr W10
  replace A_ap := A_ap.other W10 ne_az_ap.symm
  have A_az : AI .int K.Z h10 az [0, (1 : Int32), 0, 0, 0] := N10
  refine r_iinc (1 : Int32) (fun zz => #[.val (.ref o), .val (.int (4 : Int32)), .val (.int zz)]) X10 cx P71m1_43 rfl rfl (fun _ => rfl) (fun i11 e_i11 => ?_)
  obtain rfl : i11 = (2 : Int32) := e_i11
  refine r_goto X10 cx P71m1_46 ?_
  refine r_iloadN X10 cx P71m1_24 rfl ?_
  refine r_iloadN X10 cx P71m1_25 rfl ?_
  refine r_icmpgt X10 cx P71m1_26 (fun c => absurd c (by decide)) (fun _ => ?_)
  refine r_aloadN X10 cx P71m1_29 rfl ?_
  refine r_getfield X10 cx P71m1_30 (hw.get 10 rfl) F_parent (fun T12 X12 => ?_)
  refine r_iloadN X12 cx P71m1_33 rfl ?_
  refine r_iloadN X12 cx P71m1_34 rfl ?_
  refine r_iastore X12 cx P71m1_35 A_ap (2) rfl (ltb rfl) g_ap (fun T13 h13 X13 W13 N13 => ?_)
  replace Kp := Kp.wr W13 (Or.inr fr_ap)
  replace F_parent := F_parent.other W13 (Or.inl ne_ap_o.symm)
  replace F_size := F_size.other W13 (Or.inl ne_ap_o.symm)
  replace E_o := E_o.wr W13
  replace A_az := A_az.other W13 ne_az_ap
  have A_ap : AI .int K.Z h13 ap [0, (1 : Int32), (2 : Int32), 0, 0] := N13
  refine r_aloadN X13 cx P71m1_36 rfl ?_
  refine r_getfield X13 cx P71m1_37 (hw.get 12 rfl) F_size (fun T14 X14 => ?_)
  refine r_iloadN X14 cx P71m1_40 rfl ?_
  refine r_iconst (1) X14 cx P71m1_41 rfl ?_
  refine r_iastore X14 cx P71m1_42 A_az (2) rfl (ltb rfl) g_az (fun T15 h15 X15 W15 N15 => ?_)
  replace Kp := Kp.wr W15 (Or.inr fr_az)
  replace F_parent := F_parent.other W15 (Or.inl ne_az_o.symm)
  replace F_size := F_size.other W15 (Or.inl ne_az_o.symm)
  replace E_o := E_o.wr W15
  replace A_ap := A_ap.other W15 ne_az_ap.symm
  have A_az : AI .int K.Z h15 az [0, (1 : Int32), (1 : Int32), 0, 0] := N15
  refine r_iinc (1 : Int32) (fun zz => #[.val (.ref o), .val (.int (4 : Int32)), .val (.int zz)]) X15 cx P71m1_43 rfl rfl (fun _ => rfl) (fun i16 e_i16 => ?_)
  obtain rfl : i16 = (3 : Int32) := e_i16
  refine r_goto X15 cx P71m1_46 ?_
  refine r_iloadN X15 cx P71m1_24 rfl ?_
  refine r_iloadN X15 cx P71m1_25 rfl ?_
  refine r_icmpgt X15 cx P71m1_26 (fun c => absurd c (by decide)) (fun _ => ?_)
  refine r_aloadN X15 cx P71m1_29 rfl ?_
  refine r_getfield X15 cx P71m1_30 (hw.get 10 rfl) F_parent (fun T17 X17 => ?_)
  refine r_iloadN X17 cx P71m1_33 rfl ?_
  refine r_iloadN X17 cx P71m1_34 rfl ?_
  refine r_iastore X17 cx P71m1_35 A_ap (3) rfl (ltb rfl) g_ap (fun T18 h18 X18 W18 N18 => ?_)
  replace Kp := Kp.wr W18 (Or.inr fr_ap)
  replace F_parent := F_parent.other W18 (Or.inl ne_ap_o.symm)
  replace F_size := F_size.other W18 (Or.inl ne_ap_o.symm)
  replace E_o := E_o.wr W18
  replace A_az := A_az.other W18 ne_az_ap
  have A_ap : AI .int K.Z h18 ap [0, (1 : Int32), (2 : Int32), (3 : Int32), 0] := N18
  refine r_aloadN X18 cx P71m1_36 rfl ?_
  refine r_getfield X18 cx P71m1_37 (hw.get 12 rfl) F_size (fun T19 X19 => ?_)
  refine r_iloadN X19 cx P71m1_40 rfl ?_
  refine r_iconst (1) X19 cx P71m1_41 rfl ?_
  refine r_iastore X19 cx P71m1_42 A_az (3) rfl (ltb rfl) g_az (fun T20 h20 X20 W20 N20 => ?_)
  replace Kp := Kp.wr W20 (Or.inr fr_az)
  replace F_parent := F_parent.other W20 (Or.inl ne_az_o.symm)
  replace F_size := F_size.other W20 (Or.inl ne_az_o.symm)
  replace E_o := E_o.wr W20
  replace A_ap := A_ap.other W20 ne_az_ap.symm
  have A_az : AI .int K.Z h20 az [0, (1 : Int32), (1 : Int32), (1 : Int32), 0] := N20
  refine r_iinc (1 : Int32) (fun zz => #[.val (.ref o), .val (.int (4 : Int32)), .val (.int zz)]) X20 cx P71m1_43 rfl rfl (fun _ => rfl) (fun i21 e_i21 => ?_)
  obtain rfl : i21 = (4 : Int32) := e_i21
  refine r_goto X20 cx P71m1_46 ?_
  refine r_iloadN X20 cx P71m1_24 rfl ?_
  refine r_iloadN X20 cx P71m1_25 rfl ?_
  refine r_icmpgt X20 cx P71m1_26 (fun c => absurd c (by decide)) (fun _ => ?_)
  refine r_aloadN X20 cx P71m1_29 rfl ?_
  refine r_getfield X20 cx P71m1_30 (hw.get 10 rfl) F_parent (fun T22 X22 => ?_)
  refine r_iloadN X22 cx P71m1_33 rfl ?_
  refine r_iloadN X22 cx P71m1_34 rfl ?_
  refine r_iastore X22 cx P71m1_35 A_ap (4) rfl (ltb rfl) g_ap (fun T23 h23 X23 W23 N23 => ?_)
  replace Kp := Kp.wr W23 (Or.inr fr_ap)
  replace F_parent := F_parent.other W23 (Or.inl ne_ap_o.symm)
  replace F_size := F_size.other W23 (Or.inl ne_ap_o.symm)
  replace E_o := E_o.wr W23
  replace A_az := A_az.other W23 ne_az_ap
  have A_ap : AI .int K.Z h23 ap [0, (1 : Int32), (2 : Int32), (3 : Int32), (4 : Int32)] := N23
  refine r_aloadN X23 cx P71m1_36 rfl ?_
  refine r_getfield X23 cx P71m1_37 (hw.get 12 rfl) F_size (fun T24 X24 => ?_)
  refine r_iloadN X24 cx P71m1_40 rfl ?_
  refine r_iconst (1) X24 cx P71m1_41 rfl ?_
  refine r_iastore X24 cx P71m1_42 A_az (4) rfl (ltb rfl) g_az (fun T25 h25 X25 W25 N25 => ?_)
  replace Kp := Kp.wr W25 (Or.inr fr_az)
  replace F_parent := F_parent.other W25 (Or.inl ne_az_o.symm)
  replace F_size := F_size.other W25 (Or.inl ne_az_o.symm)
  replace E_o := E_o.wr W25
  replace A_ap := A_ap.other W25 ne_az_ap.symm
  have A_az : AI .int K.Z h25 az [0, (1 : Int32), (1 : Int32), (1 : Int32), (1 : Int32)] := N25
  refine r_iinc (1 : Int32) (fun zz => #[.val (.ref o), .val (.int (4 : Int32)), .val (.int zz)]) X25 cx P71m1_43 rfl rfl (fun _ => rfl) (fun i26 e_i26 => ?_)
  obtain rfl : i26 = (5 : Int32) := e_i26
  refine r_goto X25 cx P71m1_46 ?_
  refine r_iloadN X25 cx P71m1_24 rfl ?_
  refine r_iloadN X25 cx P71m1_25 rfl ?_
  refine r_icmpgt X25 cx P71m1_26 (fun _ => ?_) (fun c => absurd c (by decide))
  refine r_return X25 cx P71m1_49 (by decide) (by decide) ?_
  exact ⟨Kp.1, rfl, ap, az, E_o, F_parent, F_size, A_ap, A_az, ne_ap_o.symm, ne_az_o.symm, ne_az_ap.symm, g_o, g_ap, g_az⟩
theorem P71m3_0 : Dc prog_71_method_3_code 0 (.iload_n 1) 1 1 := ⟨(by decide +kernel), rfl⟩
theorem P71m3_1 : Dc prog_71_method_3_code 1 (.istore_n 2) 1 2 := ⟨(by decide +kernel), rfl⟩
theorem P71m3_2 : Dc prog_71_method_3_code 2 (.aload_n 0) 1 3 := ⟨(by decide +kernel), rfl⟩
theorem P71m3_3 : Dc prog_71_method_3_code 3 (.getfield 7) 3 6 := ⟨(by decide +kernel), rfl⟩
theorem P71m3_6 : Dc prog_71_method_3_code 6 (.iload_n 2) 1 7 := ⟨(by decide +kernel), rfl⟩
theorem P71m3_7 : Dc prog_71_method_3_code 7 (.iaload) 1 8 := ⟨(by decide +kernel), rfl⟩
theorem P71m3_8 : Dc prog_71_method_3_code 8 (.iload_n 2) 1 9 := ⟨(by decide +kernel), rfl⟩
theorem P71m3_9 : Db prog_71_method_3_code 9 (.if_icmp .eq 30) (30) 12 39 := ⟨(by decide +kernel), rfl, by decide, by decide⟩
theorem P71m3_12 : Dc prog_71_method_3_code 12 (.aload_n 0) 1 13 := ⟨(by decide +kernel), rfl⟩
theorem P71m3_13 : Dc prog_71_method_3_code 13 (.getfield 7) 3 16 := ⟨(by decide +kernel), rfl⟩
theorem P71m3_16 : Dc prog_71_method_3_code 16 (.iload_n 2) 1 17 := ⟨(by decide +kernel), rfl⟩
theorem P71m3_17 : Dc prog_71_method_3_code 17 (.aload_n 0) 1 18 := ⟨(by decide +kernel), rfl⟩
theorem P71m3_18 : Dc prog_71_method_3_code 18 (.getfield 7) 3 21 := ⟨(by decide +kernel), rfl⟩
theorem P71m3_21 : Dc prog_71_method_3_code 21 (.aload_n 0) 1 22 := ⟨(by decide +kernel), rfl⟩
theorem P71m3_22 : Dc prog_71_method_3_code 22 (.getfield 7) 3 25 := ⟨(by decide +kernel), rfl⟩
theorem P71m3_25 : Dc prog_71_method_3_code 25 (.iload_n 2) 1 26 := ⟨(by decide +kernel), rfl⟩
theorem P71m3_26 : Dc prog_71_method_3_code 26 (.iaload) 1 27 := ⟨(by decide +kernel), rfl⟩
theorem P71m3_27 : Dc prog_71_method_3_code 27 (.iaload) 1 28 := ⟨(by decide +kernel), rfl⟩
theorem P71m3_28 : Dc prog_71_method_3_code 28 (.iastore) 1 29 := ⟨(by decide +kernel), rfl⟩
theorem P71m3_29 : Dc prog_71_method_3_code 29 (.aload_n 0) 1 30 := ⟨(by decide +kernel), rfl⟩
theorem P71m3_30 : Dc prog_71_method_3_code 30 (.getfield 7) 3 33 := ⟨(by decide +kernel), rfl⟩
theorem P71m3_33 : Dc prog_71_method_3_code 33 (.iload_n 2) 1 34 := ⟨(by decide +kernel), rfl⟩
theorem P71m3_34 : Dc prog_71_method_3_code 34 (.iaload) 1 35 := ⟨(by decide +kernel), rfl⟩
theorem P71m3_35 : Dc prog_71_method_3_code 35 (.istore_n 2) 1 36 := ⟨(by decide +kernel), rfl⟩
theorem P71m3_36 : Db prog_71_method_3_code 36 (.goto (-34)) (-34) 39 2 := ⟨(by decide +kernel), rfl, by decide, by decide⟩
theorem P71m3_39 : Dc prog_71_method_3_code 39 (.iload_n 2) 1 40 := ⟨(by decide +kernel), rfl⟩
theorem P71m3_40 : Dc prog_71_method_3_code 40 (.ireturn) 1 41 := ⟨(by decide +kernel), rfl⟩
set_option maxRecDepth 65536 in
set_option maxHeartbeats 40000000 in
theorem own_rloop {K : KT} {a0 : Array Value} (cx : Cx K (⟨"com/example/lacewood/lacewood/spanning/DisjointSets", "root", "(I)I"⟩ : MethodName) prog_71_method_3_code 3 (some .int) ({ frames := 0, cells := 0, slots := 0, locals := 0 } : Room)) (hw : Tb tables_1 a0 K.Z) (o ap az : Addr) (nd : Int32) (h0 : Heap) (ss ps2 : List Nat) (r : Nat) :
    ∀ (k : Nat) (ps : List Nat) (a : Nat) (T0 : State) (h : Heap), own_ok ps = true → a < 5 → own_root k ps a = (ps2, r, true) → DS K.Z K.n0 h o ap az ps ss → Keep h0 h [ap] → Sd K T0 h 0 0 →
      Run K (fun v h => h0.size ≤ h.size ∧ v = some (.int (Int32.ofNat r)) ∧ DS K.Z K.n0 h o ap az ps2 ss ∧ Keep h0 h [ap]) T0 (mkF K.m 2 #[.val (.ref o), .val (.int nd), .val (.int (Int32.ofNat a))] []) := by
  intro k
  induction k with
  | zero =>
    intro ps a T0 h hok ha hr
    unfold own_root at hr
    simp at hr
  | succ k ih =>
    intro ps a T0 h hok ha hr B Kp X0
    unfold own_root at hr
    have hl := own_okl hok
    obtain ⟨E_o, F_parent, F_size, A_ap, A_az, ne_o_ap, ne_o_az, ne_ap_az, g_o, g_ap, g_az⟩ := B
    refine r_aloadN X0 cx P71m3_2 rfl ?_
    refine r_getfield X0 cx P71m3_3 (hw.get 10 rfl) F_parent (fun T1 X1 => ?_)
    refine r_iloadN X1 cx P71m3_6 rfl ?_
    refine r_iaload X1 cx P71m3_7 A_ap (a) rfl (v := (Int32.ofNat (ps.getD a 0))) (own_get (by omega)) ?_
    refine r_iloadN X1 cx P71m3_8 rfl ?_
    refine r_icmpeq X1 cx P71m3_9 (fun c9 => ?_) (fun c9 => ?_)
    · refine r_iloadN X1 cx P71m3_39 rfl ?_
      refine r_ireturn X1 cx P71m3_40 (by decide) (by decide) ?_
      rw [own_inj (own_okg hok _) ha] at c9
      rw [if_pos c9] at hr
      obtain ⟨rfl, h2⟩ := Prod.mk.inj hr
      obtain ⟨rfl, -⟩ := Prod.mk.inj h2
      exact ⟨Kp.1, rfl, ⟨E_o, F_parent, F_size, A_ap, A_az, ne_o_ap, ne_o_az, ne_ap_az, g_o, g_ap, g_az⟩, Kp⟩
    · rw [own_inj (own_okg hok _) ha] at c9
      rw [if_neg c9] at hr
      refine r_aloadN X1 cx P71m3_12 rfl ?_
      refine r_getfield X1 cx P71m3_13 (hw.get 10 rfl) F_parent (fun T2 X2 => ?_)
      refine r_iloadN X2 cx P71m3_16 rfl ?_
      refine r_aloadN X2 cx P71m3_17 rfl ?_
      refine r_getfield X2 cx P71m3_18 (hw.get 10 rfl) F_parent (fun T3 X3 => ?_)
      refine r_aloadN X3 cx P71m3_21 rfl ?_
      refine r_getfield X3 cx P71m3_22 (hw.get 10 rfl) F_parent (fun T4 X4 => ?_)
      refine r_iloadN X4 cx P71m3_25 rfl ?_
      refine r_iaload X4 cx P71m3_26 A_ap (a) rfl (v := (Int32.ofNat (ps.getD a 0))) (own_get (by omega)) ?_
      refine r_iaload X4 cx P71m3_27 A_ap ((ps.getD a 0)) rfl (v := (Int32.ofNat (ps.getD (ps.getD a 0) 0))) (own_get (by rw [hl]; exact own_okg hok _)) ?_
      refine r_iastore X4 cx P71m3_28 A_ap (a) rfl (by rw [own_len]; omega) g_ap (fun T5 h5 X5 W5 N5 => ?_)
      replace Kp := Kp.wr W5 (Or.inl (by simp))
      replace F_parent := F_parent.other W5 (Or.inl ne_o_ap)
      replace F_size := F_size.other W5 (Or.inl ne_o_ap)
      replace E_o := E_o.wr W5
      replace A_az := A_az.other W5 ne_ap_az.symm
      have A_ap : AI .int K.Z h5 ap (own_i (ps.set a (ps.getD (ps.getD a 0) 0))) := by rw [← own_iset]; exact N5
      refine r_aloadN X5 cx P71m3_29 rfl ?_
      refine r_getfield X5 cx P71m3_30 (hw.get 10 rfl) F_parent (fun T6 X6 => ?_)
      refine r_iloadN X6 cx P71m3_33 rfl ?_
      refine r_iaload X6 cx P71m3_34 A_ap (a) rfl (v := (Int32.ofNat (ps.getD (ps.getD a 0) 0))) (by rw [own_get (by rw [List.length_set]; omega), List.getD_eq_getElem?_getD, List.getElem?_set_self (by omega)]; rfl) ?_
      refine r_istoreN (fun zz => #[.val (.ref o), .val (.int nd), .val (.int zz)]) X6 cx P71m3_35 (fun _ => rfl) (fun at2 e_at2 => ?_)
      refine r_goto X6 cx P71m3_36 ?_
      subst e_at2
      exact ih _ _ _ _ (own_okset hok _ (own_okg hok _)) (own_okg hok _) hr ⟨E_o, F_parent, F_size, A_ap, A_az, ne_o_ap, ne_o_az, ne_ap_az, g_o, g_ap, g_az⟩ Kp X6
theorem ef_P71m3 (m : MethodId) (o : Addr) (nd : Int32) : entryFrame m #[(.ref o), (.int nd)] 3 = mkF m 0 #[.val (.ref o), .val (.int nd), .unset] [] := by first | (simp [entryFrame, mkF, argsToLocals, Value.category]; done) | rfl
set_option maxRecDepth 65536 in
set_option maxHeartbeats 40000000 in
theorem con_P71m3 (l : Launch) (Z : State) (a0 : Array Value) (hw : Tb tables_1 a0 Z) (o : Addr) (nd : Int32) (h0 : Heap) (n0 : Nat) (Z0 : n0 ≤ h0.size) (ap az : Addr) (ps ss ps2 : List Nat) (a r : Nat) (B : DS Z n0 h0 o ap az ps ss) (hok : own_ok ps = true) (ha : a < 5) (ea : nd = Int32.ofNat a) (hr : own_root 9 ps a = (ps2, r, true)) :
    Con l Z (⟨"com/example/lacewood/lacewood/spanning/DisjointSets", "root", "(I)I"⟩ : MethodName) prog_71_method_3_code 3 (some (.int)) ({ frames := 0, cells := 0, slots := 0, locals := 0 } : Room) #[(.ref o), (.int nd)] h0 n0 (fun v h => h0.size ≤ h.size ∧ v = some (.int (Int32.ofNat r)) ∧ DS Z n0 h o ap az ps2 ss ∧ Keep h0 h [ap]) := by
  refine Con.of (plainFor_of_name (by decide +kernel)) Z0 ?_
  intro K hl hZ hn cx T0 X0
  subst hl hZ hn
  refine Run.cast (ef_P71m3 K.m o nd) ?_
  refine r_iloadN X0 cx P71m3_0 rfl ?_
  refine r_istoreN (fun zz => #[.val (.ref o), .val (.int nd), .val (.int zz)]) X0 cx P71m3_1 (fun _ => rfl) (fun at0 e_at0 => ?_)
  replace e_at0 := e_at0.trans ea
  subst e_at0
  exact own_rloop cx hw o ap az nd h0 ss ps2 r 9 ps a _ h0 hok ha hr B (Keep.refl _ _) X0
theorem P71m2_0 : Dc prog_71_method_2_code 0 (.aload_n 0) 1 1 := ⟨(by decide +kernel), rfl⟩
theorem P71m2_1 : Dc prog_71_method_2_code 1 (.iload_n 1) 1 2 := ⟨(by decide +kernel), rfl⟩
theorem P71m2_2 : Dc prog_71_method_2_code 2 (.invokevirtual 16) 3 5 := ⟨(by decide +kernel), rfl⟩
theorem P71m2_5 : Dc prog_71_method_2_code 5 (.istore_n 3) 1 6 := ⟨(by decide +kernel), rfl⟩
theorem P71m2_6 : Dc prog_71_method_2_code 6 (.aload_n 0) 1 7 := ⟨(by decide +kernel), rfl⟩
theorem P71m2_7 : Dc prog_71_method_2_code 7 (.iload_n 2) 1 8 := ⟨(by decide +kernel), rfl⟩
theorem P71m2_8 : Dc prog_71_method_2_code 8 (.invokevirtual 16) 3 11 := ⟨(by decide +kernel), rfl⟩
theorem P71m2_11 : Dc prog_71_method_2_code 11 (.istore 4) 2 13 := ⟨(by decide +kernel), rfl⟩
theorem P71m2_13 : Dc prog_71_method_2_code 13 (.iload_n 3) 1 14 := ⟨(by decide +kernel), rfl⟩
theorem P71m2_14 : Dc prog_71_method_2_code 14 (.iload 4) 2 16 := ⟨(by decide +kernel), rfl⟩
theorem P71m2_16 : Db prog_71_method_2_code 16 (.if_icmp .ne 5) (5) 19 21 := ⟨(by decide +kernel), rfl, by decide, by decide⟩
theorem P71m2_19 : Dc prog_71_method_2_code 19 (.iconst 0) 1 20 := ⟨(by decide +kernel), rfl⟩
theorem P71m2_20 : Dc prog_71_method_2_code 20 (.ireturn) 1 21 := ⟨(by decide +kernel), rfl⟩
theorem P71m2_21 : Dc prog_71_method_2_code 21 (.aload_n 0) 1 22 := ⟨(by decide +kernel), rfl⟩
theorem P71m2_22 : Dc prog_71_method_2_code 22 (.getfield 13) 3 25 := ⟨(by decide +kernel), rfl⟩
theorem P71m2_25 : Dc prog_71_method_2_code 25 (.iload_n 3) 1 26 := ⟨(by decide +kernel), rfl⟩
theorem P71m2_26 : Dc prog_71_method_2_code 26 (.iaload) 1 27 := ⟨(by decide +kernel), rfl⟩
theorem P71m2_27 : Dc prog_71_method_2_code 27 (.aload_n 0) 1 28 := ⟨(by decide +kernel), rfl⟩
theorem P71m2_28 : Dc prog_71_method_2_code 28 (.getfield 13) 3 31 := ⟨(by decide +kernel), rfl⟩
theorem P71m2_31 : Dc prog_71_method_2_code 31 (.iload 4) 2 33 := ⟨(by decide +kernel), rfl⟩
theorem P71m2_33 : Dc prog_71_method_2_code 33 (.iaload) 1 34 := ⟨(by decide +kernel), rfl⟩
theorem P71m2_34 : Db prog_71_method_2_code 34 (.if_icmp .ge 13) (13) 37 47 := ⟨(by decide +kernel), rfl, by decide, by decide⟩
theorem P71m2_37 : Dc prog_71_method_2_code 37 (.iload_n 3) 1 38 := ⟨(by decide +kernel), rfl⟩
theorem P71m2_38 : Dc prog_71_method_2_code 38 (.istore 5) 2 40 := ⟨(by decide +kernel), rfl⟩
theorem P71m2_40 : Dc prog_71_method_2_code 40 (.iload 4) 2 42 := ⟨(by decide +kernel), rfl⟩
theorem P71m2_42 : Dc prog_71_method_2_code 42 (.istore_n 3) 1 43 := ⟨(by decide +kernel), rfl⟩
theorem P71m2_43 : Dc prog_71_method_2_code 43 (.iload 5) 2 45 := ⟨(by decide +kernel), rfl⟩
theorem P71m2_45 : Dc prog_71_method_2_code 45 (.istore 4) 2 47 := ⟨(by decide +kernel), rfl⟩
theorem P71m2_47 : Dc prog_71_method_2_code 47 (.aload_n 0) 1 48 := ⟨(by decide +kernel), rfl⟩
theorem P71m2_48 : Dc prog_71_method_2_code 48 (.getfield 7) 3 51 := ⟨(by decide +kernel), rfl⟩
theorem P71m2_51 : Dc prog_71_method_2_code 51 (.iload 4) 2 53 := ⟨(by decide +kernel), rfl⟩
theorem P71m2_53 : Dc prog_71_method_2_code 53 (.iload_n 3) 1 54 := ⟨(by decide +kernel), rfl⟩
theorem P71m2_54 : Dc prog_71_method_2_code 54 (.iastore) 1 55 := ⟨(by decide +kernel), rfl⟩
theorem P71m2_55 : Dc prog_71_method_2_code 55 (.aload_n 0) 1 56 := ⟨(by decide +kernel), rfl⟩
theorem P71m2_56 : Dc prog_71_method_2_code 56 (.getfield 13) 3 59 := ⟨(by decide +kernel), rfl⟩
theorem P71m2_59 : Dc prog_71_method_2_code 59 (.iload_n 3) 1 60 := ⟨(by decide +kernel), rfl⟩
theorem P71m2_60 : Dc prog_71_method_2_code 60 (.dup2) 1 61 := ⟨(by decide +kernel), rfl⟩
theorem P71m2_61 : Dc prog_71_method_2_code 61 (.iaload) 1 62 := ⟨(by decide +kernel), rfl⟩
theorem P71m2_62 : Dc prog_71_method_2_code 62 (.aload_n 0) 1 63 := ⟨(by decide +kernel), rfl⟩
theorem P71m2_63 : Dc prog_71_method_2_code 63 (.getfield 13) 3 66 := ⟨(by decide +kernel), rfl⟩
theorem P71m2_66 : Dc prog_71_method_2_code 66 (.iload 4) 2 68 := ⟨(by decide +kernel), rfl⟩
theorem P71m2_68 : Dc prog_71_method_2_code 68 (.iaload) 1 69 := ⟨(by decide +kernel), rfl⟩
theorem P71m2_69 : Dc prog_71_method_2_code 69 (.iadd) 1 70 := ⟨(by decide +kernel), rfl⟩
theorem P71m2_70 : Dc prog_71_method_2_code 70 (.iastore) 1 71 := ⟨(by decide +kernel), rfl⟩
theorem P71m2_71 : Dc prog_71_method_2_code 71 (.iconst 1) 1 72 := ⟨(by decide +kernel), rfl⟩
theorem P71m2_72 : Dc prog_71_method_2_code 72 (.ireturn) 1 73 := ⟨(by decide +kernel), rfl⟩
theorem ef_P71m2 (m : MethodId) (o : Addr) (na : Int32) (nb : Int32) : entryFrame m #[(.ref o), (.int na), (.int nb)] 6 = mkF m 0 #[.val (.ref o), .val (.int na), .val (.int nb), .unset, .unset, .unset] [] := by first | (simp [entryFrame, mkF, argsToLocals, Value.category]; done) | rfl
set_option maxRecDepth 65536 in
set_option maxHeartbeats 40000000 in
theorem con_P71m2 (l : Launch) (Z : State) (a0 : Array Value) (hw : Tb tables_1 a0 Z) (o : Addr) (na : Int32) (nb : Int32) (h0 : Heap) (n0 : Nat) (Z0 : n0 ≤ h0.size) (ap az : Addr) (ps ss : List Nat) (a b : Nat) (B : DS Z n0 h0 o ap az ps ss) (hok : own_ok ps = true) (hos : own_ok ss = true) (ha : a < 5) (hb : b < 5) (ea : na = Int32.ofNat a) (eb : nb = Int32.ofNat b) (hu : (own_union ps ss a b).2.2.2 = true) :
    Con l Z (⟨"com/example/lacewood/lacewood/spanning/DisjointSets", "union", "(II)Z"⟩ : MethodName) prog_71_method_2_code 6 (some (.boolean)) ({ frames := 1, cells := 0, slots := 0, locals := 14 } : Room) #[(.ref o), (.int na), (.int nb)] h0 n0 (fun v h => h0.size ≤ h.size ∧ v = some (.int (if (own_union ps ss a b).2.2.1 then 1 else 0)) ∧ DS Z n0 h o ap az (own_union ps ss a b).1 (own_union ps ss a b).2.1 ∧ Keep h0 h [ap, az]) := by
  refine Con.of (plainFor_of_name (by decide +kernel)) Z0 ?_
  intro K hl hZ hn cx T0 X0
  subst hl hZ hn
  refine Run.cast (ef_P71m2 K.m o na nb) ?_
  obtain ⟨p1, r1, k1, hA⟩ : ∃ p1 r1 k1, own_root 9 ps a = (p1, r1, k1) := ⟨_, _, _, rfl⟩
  obtain ⟨p2, r2, k2, hB⟩ : ∃ p2 r2 k2, own_root 9 p1 b = (p2, r2, k2) := ⟨_, _, _, rfl⟩
  have hU : own_union ps ss a b = (if r1 = r2 then (p2, ss, false, k1 && k2) else if ss.getD r1 0 < ss.getD r2 0 then (p2.set r1 r2, ss.set r2 (ss.getD r2 0 + ss.getD r1 0), true, k1 && k2) else (p2.set r2 r1, ss.set r1 (ss.getD r1 0 + ss.getD r2 0), true, k1 && k2)) := by
    unfold own_union; simp only [hA, hB]
  have hk : k1 = true ∧ k2 = true := by
    rw [hU] at hu
    split at hu
    · simpa using hu
    · split at hu <;> simpa using hu
  obtain ⟨rfl, rfl⟩ := hk
  have o1 := own_rok 9 ps a hok ha
  rw [hA] at o1
  obtain ⟨o1, l1⟩ := o1
  have o2 := own_rok 9 p1 b o1 hb
  rw [hB] at o2
  obtain ⟨o2, l2⟩ := o2
  simp only at o1 l1 o2 l2
  have hl2 := own_okl o2; have hls := own_okl hos
  clear hu
  refine r_aloadN X0 cx P71m2_0 rfl ?_
  refine r_iloadN X0 cx P71m2_1 rfl ?_
  refine r_virtual [(.int na)] [] X0 cx P71m2_2 B.1 (hw.get 19 rfl) (hw.get 20 rfl) (hw.get 22 rfl) (hw.get 21 rfl) (hw.get 2 rfl) (hw.get 23 rfl) (by decide) (con_P71m3 K.l K.Z a0 hw o na h0 K.n0 X0.ge ap az ps ss p1 a r1 B hok ha ea hA) (lenOf pd_0 rfl) rfl rfl (by decide) (leb rfl) (by decide) (by decide) (fun T1 h1 v1 X1 q1 => ?_) (fun _ _ q => q.1)
  obtain ⟨z1, rfl, B, Kp⟩ := q1
  refine r_istoreN (fun zz => #[.val (.ref o), .val (.int na), .val (.int nb), .val (.int zz), .unset, .unset]) X1 cx P71m2_5 (fun _ => rfl) (fun x1 e_x1 => ?_)
  subst e_x1
  refine r_aloadN X1 cx P71m2_6 rfl ?_
  refine r_iloadN X1 cx P71m2_7 rfl ?_
  refine r_virtual [(.int nb)] [] X1 cx P71m2_8 B.1 (hw.get 19 rfl) (hw.get 20 rfl) (hw.get 22 rfl) (hw.get 21 rfl) (hw.get 2 rfl) (hw.get 23 rfl) (by decide) (con_P71m3 K.l K.Z a0 hw o nb h1 K.n0 X1.ge ap az p1 ss p2 b r2 B o1 hb eb hB) (lenOf pd_0 rfl) rfl rfl (by decide) (leb rfl) (by decide) (by decide) (fun T2 h2 v2 X2 q2 => ?_) (fun _ _ q => q.1)
  obtain ⟨z2, rfl, B, Kq⟩ := q2
  replace Kp : Keep h0 h2 [ap, az] := ((Keep.trans (ws := [ap, az]) (Keep.refl _ _) Kp (fun x hx => Or.inl (by simp_all))).trans Kq (fun x hx => Or.inl (by simp_all)))
  obtain ⟨E_o, F_parent, F_size, A_ap, A_az, ne_o_ap, ne_o_az, ne_ap_az, g_o, g_ap, g_az⟩ := B
  refine r_istore (fun zz => #[.val (.ref o), .val (.int na), .val (.int nb), .val (.int (Int32.ofNat r1)), .val (.int zz), .unset]) X2 cx P71m2_11 (fun _ => rfl) (fun x2 e_x2 => ?_)
  subst e_x2
  refine r_iloadN X2 cx P71m2_13 rfl ?_
  refine r_iload X2 cx P71m2_14 rfl ?_
  refine r_icmpne X2 cx P71m2_16 (fun c16 => ?_) (fun c16 => ?_)
  · rw [own_inj l1 l2] at c16
    rw [if_neg c16] at hU
    refine r_aloadN X2 cx P71m2_21 rfl ?_
    refine r_getfield X2 cx P71m2_22 (hw.get 12 rfl) F_size (fun T3 X3 => ?_)
    refine r_iloadN X3 cx P71m2_25 rfl ?_
    refine r_iaload X3 cx P71m2_26 A_az (r1) rfl (v := (Int32.ofNat (ss.getD r1 0))) (own_get (by omega)) ?_
    refine r_aloadN X3 cx P71m2_27 rfl ?_
    refine r_getfield X3 cx P71m2_28 (hw.get 12 rfl) F_size (fun T4 X4 => ?_)
    refine r_iload X4 cx P71m2_31 rfl ?_
    refine r_iaload X4 cx P71m2_33 A_az (r2) rfl (v := (Int32.ofNat (ss.getD r2 0))) (own_get (by omega)) ?_
    refine r_icmpge X4 cx P71m2_34 (fun c34 => ?_) (fun c34 => ?_)
    · rw [own_ltn (by have := own_okg hos r1; omega) (by have := own_okg hos r2; omega)] at c34
      rw [if_neg c34] at hU
      refine r_aloadN X4 cx P71m2_47 rfl ?_
      refine r_getfield X4 cx P71m2_48 (hw.get 10 rfl) F_parent (fun T5 X5 => ?_)
      refine r_iload X5 cx P71m2_51 rfl ?_
      refine r_iloadN X5 cx P71m2_53 rfl ?_
      refine r_iastore X5 cx P71m2_54 A_ap (r2) rfl (by rw [own_len]; omega) g_ap (fun T6 h6 X6 W6 N6 => ?_)
      replace Kp := Kp.wr W6 (Or.inl (by simp))
      replace F_parent := F_parent.other W6 (Or.inl ne_o_ap)
      replace F_size := F_size.other W6 (Or.inl ne_o_ap)
      replace E_o := E_o.wr W6
      replace A_az := A_az.other W6 ne_ap_az.symm
      have A_ap : AI .int K.Z h6 ap (own_i (p2.set r2 r1)) := by rw [← own_iset]; first | exact N6 | (rw [Int32.ofNat_add]; exact N6)
      refine r_aloadN X6 cx P71m2_55 rfl ?_
      refine r_getfield X6 cx P71m2_56 (hw.get 12 rfl) F_size (fun T7 X7 => ?_)
      refine r_iloadN X7 cx P71m2_59 rfl ?_
      refine r_dup2 X7 cx P71m2_60 rfl rfl ?_
      refine r_iaload X7 cx P71m2_61 A_az (r1) rfl (v := (Int32.ofNat (ss.getD r1 0))) (own_get (by omega)) ?_
      refine r_aloadN X7 cx P71m2_62 rfl ?_
      refine r_getfield X7 cx P71m2_63 (hw.get 12 rfl) F_size (fun T8 X8 => ?_)
      refine r_iload X8 cx P71m2_66 rfl ?_
      refine r_iaload X8 cx P71m2_68 A_az (r2) rfl (v := (Int32.ofNat (ss.getD r2 0))) (own_get (by omega)) ?_
      refine r_iadd X8 cx P71m2_69 ?_
      refine r_iastore X8 cx P71m2_70 A_az (r1) rfl (by rw [own_len]; omega) g_az (fun T9 h9 X9 W9 N9 => ?_)
      replace Kp := Kp.wr W9 (Or.inl (by simp))
      replace F_parent := F_parent.other W9 (Or.inl ne_o_az)
      replace F_size := F_size.other W9 (Or.inl ne_o_az)
      replace E_o := E_o.wr W9
      replace A_ap := A_ap.other W9 ne_ap_az
      have A_az : AI .int K.Z h9 az (own_i (ss.set r1 (ss.getD r1 0 + ss.getD r2 0))) := by rw [← own_iset]; first | exact N9 | (rw [Int32.ofNat_add]; exact N9)
      refine r_iconst (1) X9 cx P71m2_71 rfl ?_
      refine r_zreturn X9 cx P71m2_72 (by decide) (by decide) ?_
      rw [hU]
      exact ⟨Kp.1, rfl, ⟨E_o, F_parent, F_size, A_ap, A_az, ne_o_ap, ne_o_az, ne_ap_az, g_o, g_ap, g_az⟩, Kp⟩
    · refine r_iloadN X4 cx P71m2_37 rfl ?_
      refine r_istore (fun zz => #[.val (.ref o), .val (.int na), .val (.int nb), .val (.int (Int32.ofNat r1)), .val (.int (Int32.ofNat r2)), .val (.int zz)]) X4 cx P71m2_38 (fun _ => rfl) (fun sw e_sw => ?_)
      subst e_sw
      refine r_iload X4 cx P71m2_40 rfl ?_
      refine r_istoreN (fun zz => #[.val (.ref o), .val (.int na), .val (.int nb), .val (.int zz), .val (.int (Int32.ofNat r2)), .val (.int (Int32.ofNat r1))]) X4 cx P71m2_42 (fun _ => rfl) (fun y1 e_y1 => ?_)
      subst e_y1
      refine r_iload X4 cx P71m2_43 rfl ?_
      refine r_istore (fun zz => #[.val (.ref o), .val (.int na), .val (.int nb), .val (.int (Int32.ofNat r2)), .val (.int zz), .val (.int (Int32.ofNat r1))]) X4 cx P71m2_45 (fun _ => rfl) (fun y2 e_y2 => ?_)
      subst e_y2
      rw [own_ltn (by have := own_okg hos r1; omega) (by have := own_okg hos r2; omega)] at c34
      rw [if_pos c34] at hU
      refine r_aloadN X4 cx P71m2_47 rfl ?_
      refine r_getfield X4 cx P71m2_48 (hw.get 10 rfl) F_parent (fun T5 X5 => ?_)
      refine r_iload X5 cx P71m2_51 rfl ?_
      refine r_iloadN X5 cx P71m2_53 rfl ?_
      refine r_iastore X5 cx P71m2_54 A_ap (r1) rfl (by rw [own_len]; omega) g_ap (fun T6 h6 X6 W6 N6 => ?_)
      replace Kp := Kp.wr W6 (Or.inl (by simp))
      replace F_parent := F_parent.other W6 (Or.inl ne_o_ap)
      replace F_size := F_size.other W6 (Or.inl ne_o_ap)
      replace E_o := E_o.wr W6
      replace A_az := A_az.other W6 ne_ap_az.symm
      have A_ap : AI .int K.Z h6 ap (own_i (p2.set r1 r2)) := by rw [← own_iset]; first | exact N6 | (rw [Int32.ofNat_add]; exact N6)
      refine r_aloadN X6 cx P71m2_55 rfl ?_
      refine r_getfield X6 cx P71m2_56 (hw.get 12 rfl) F_size (fun T7 X7 => ?_)
      refine r_iloadN X7 cx P71m2_59 rfl ?_
      refine r_dup2 X7 cx P71m2_60 rfl rfl ?_
      refine r_iaload X7 cx P71m2_61 A_az (r2) rfl (v := (Int32.ofNat (ss.getD r2 0))) (own_get (by omega)) ?_
      refine r_aloadN X7 cx P71m2_62 rfl ?_
      refine r_getfield X7 cx P71m2_63 (hw.get 12 rfl) F_size (fun T8 X8 => ?_)
      refine r_iload X8 cx P71m2_66 rfl ?_
      refine r_iaload X8 cx P71m2_68 A_az (r1) rfl (v := (Int32.ofNat (ss.getD r1 0))) (own_get (by omega)) ?_
      refine r_iadd X8 cx P71m2_69 ?_
      refine r_iastore X8 cx P71m2_70 A_az (r2) rfl (by rw [own_len]; omega) g_az (fun T9 h9 X9 W9 N9 => ?_)
      replace Kp := Kp.wr W9 (Or.inl (by simp))
      replace F_parent := F_parent.other W9 (Or.inl ne_o_az)
      replace F_size := F_size.other W9 (Or.inl ne_o_az)
      replace E_o := E_o.wr W9
      replace A_ap := A_ap.other W9 ne_ap_az
      have A_az : AI .int K.Z h9 az (own_i (ss.set r2 (ss.getD r2 0 + ss.getD r1 0))) := by rw [← own_iset]; first | exact N9 | (rw [Int32.ofNat_add]; exact N9)
      refine r_iconst (1) X9 cx P71m2_71 rfl ?_
      refine r_zreturn X9 cx P71m2_72 (by decide) (by decide) ?_
      rw [hU]
      exact ⟨Kp.1, rfl, ⟨E_o, F_parent, F_size, A_ap, A_az, ne_o_ap, ne_o_az, ne_ap_az, g_o, g_ap, g_az⟩, Kp⟩
  · refine r_iconst (0) X2 cx P71m2_19 rfl ?_
    refine r_zreturn X2 cx P71m2_20 (by decide) (by decide) ?_
    rw [own_inj l1 l2] at c16
    rw [if_pos c16] at hU
    rw [hU]
    exact ⟨Kp.1, rfl, ⟨E_o, F_parent, F_size, A_ap, A_az, ne_o_ap, ne_o_az, ne_ap_az, g_o, g_ap, g_az⟩, Kp⟩
theorem H2_0 : Dc method_2_code 0 (.aload_n 0) 1 1 := ⟨(by decide +kernel), rfl⟩
theorem H2_1 : Dc method_2_code 1 (.iload_n 1) 1 2 := ⟨(by decide +kernel), rfl⟩
theorem H2_2 : Dc method_2_code 2 (.iaload) 1 3 := ⟨(by decide +kernel), rfl⟩
theorem H2_3 : Dc method_2_code 3 (.istore_n 3) 1 4 := ⟨(by decide +kernel), rfl⟩
theorem H2_4 : Dc method_2_code 4 (.aload_n 0) 1 5 := ⟨(by decide +kernel), rfl⟩
theorem H2_5 : Dc method_2_code 5 (.iload_n 2) 1 6 := ⟨(by decide +kernel), rfl⟩
theorem H2_6 : Dc method_2_code 6 (.iaload) 1 7 := ⟨(by decide +kernel), rfl⟩
theorem H2_7 : Dc method_2_code 7 (.istore 4) 2 9 := ⟨(by decide +kernel), rfl⟩
theorem H2_9 : Dc method_2_code 9 (.iload_n 3) 1 10 := ⟨(by decide +kernel), rfl⟩
theorem H2_10 : Dc method_2_code 10 (.iload 4) 2 12 := ⟨(by decide +kernel), rfl⟩
theorem H2_12 : Db method_2_code 12 (.if_icmp .ne 5) (5) 15 17 := ⟨(by decide +kernel), rfl, by decide, by decide⟩
theorem H2_15 : Dc method_2_code 15 (.iconst 0) 1 16 := ⟨(by decide +kernel), rfl⟩
theorem H2_16 : Dc method_2_code 16 (.ireturn) 1 17 := ⟨(by decide +kernel), rfl⟩
theorem H2_17 : Dc method_2_code 17 (.aload_n 0) 1 18 := ⟨(by decide +kernel), rfl⟩
theorem H2_18 : Dc method_2_code 18 (.iconst 1) 1 19 := ⟨(by decide +kernel), rfl⟩
theorem H2_19 : Dc method_2_code 19 (.iaload) 1 20 := ⟨(by decide +kernel), rfl⟩
theorem H2_20 : Dc method_2_code 20 (.iload 4) 2 22 := ⟨(by decide +kernel), rfl⟩
theorem H2_22 : Db method_2_code 22 (.if_icmp .ne 7) (7) 25 29 := ⟨(by decide +kernel), rfl, by decide, by decide⟩
theorem H2_25 : Dc method_2_code 25 (.aload_n 0) 1 26 := ⟨(by decide +kernel), rfl⟩
theorem H2_26 : Dc method_2_code 26 (.iconst 1) 1 27 := ⟨(by decide +kernel), rfl⟩
theorem H2_27 : Dc method_2_code 27 (.iload_n 3) 1 28 := ⟨(by decide +kernel), rfl⟩
theorem H2_28 : Dc method_2_code 28 (.iastore) 1 29 := ⟨(by decide +kernel), rfl⟩
theorem H2_29 : Dc method_2_code 29 (.aload_n 0) 1 30 := ⟨(by decide +kernel), rfl⟩
theorem H2_30 : Dc method_2_code 30 (.iconst 2) 1 31 := ⟨(by decide +kernel), rfl⟩
theorem H2_31 : Dc method_2_code 31 (.iaload) 1 32 := ⟨(by decide +kernel), rfl⟩
theorem H2_32 : Dc method_2_code 32 (.iload 4) 2 34 := ⟨(by decide +kernel), rfl⟩
theorem H2_34 : Db method_2_code 34 (.if_icmp .ne 7) (7) 37 41 := ⟨(by decide +kernel), rfl, by decide, by decide⟩
theorem H2_37 : Dc method_2_code 37 (.aload_n 0) 1 38 := ⟨(by decide +kernel), rfl⟩
theorem H2_38 : Dc method_2_code 38 (.iconst 2) 1 39 := ⟨(by decide +kernel), rfl⟩
theorem H2_39 : Dc method_2_code 39 (.iload_n 3) 1 40 := ⟨(by decide +kernel), rfl⟩
theorem H2_40 : Dc method_2_code 40 (.iastore) 1 41 := ⟨(by decide +kernel), rfl⟩
theorem H2_41 : Dc method_2_code 41 (.aload_n 0) 1 42 := ⟨(by decide +kernel), rfl⟩
theorem H2_42 : Dc method_2_code 42 (.iconst 3) 1 43 := ⟨(by decide +kernel), rfl⟩
theorem H2_43 : Dc method_2_code 43 (.iaload) 1 44 := ⟨(by decide +kernel), rfl⟩
theorem H2_44 : Dc method_2_code 44 (.iload 4) 2 46 := ⟨(by decide +kernel), rfl⟩
theorem H2_46 : Db method_2_code 46 (.if_icmp .ne 7) (7) 49 53 := ⟨(by decide +kernel), rfl, by decide, by decide⟩
theorem H2_49 : Dc method_2_code 49 (.aload_n 0) 1 50 := ⟨(by decide +kernel), rfl⟩
theorem H2_50 : Dc method_2_code 50 (.iconst 3) 1 51 := ⟨(by decide +kernel), rfl⟩
theorem H2_51 : Dc method_2_code 51 (.iload_n 3) 1 52 := ⟨(by decide +kernel), rfl⟩
theorem H2_52 : Dc method_2_code 52 (.iastore) 1 53 := ⟨(by decide +kernel), rfl⟩
theorem H2_53 : Dc method_2_code 53 (.aload_n 0) 1 54 := ⟨(by decide +kernel), rfl⟩
theorem H2_54 : Dc method_2_code 54 (.iconst 4) 1 55 := ⟨(by decide +kernel), rfl⟩
theorem H2_55 : Dc method_2_code 55 (.iaload) 1 56 := ⟨(by decide +kernel), rfl⟩
theorem H2_56 : Dc method_2_code 56 (.iload 4) 2 58 := ⟨(by decide +kernel), rfl⟩
theorem H2_58 : Db method_2_code 58 (.if_icmp .ne 7) (7) 61 65 := ⟨(by decide +kernel), rfl, by decide, by decide⟩
theorem H2_61 : Dc method_2_code 61 (.aload_n 0) 1 62 := ⟨(by decide +kernel), rfl⟩
theorem H2_62 : Dc method_2_code 62 (.iconst 4) 1 63 := ⟨(by decide +kernel), rfl⟩
theorem H2_63 : Dc method_2_code 63 (.iload_n 3) 1 64 := ⟨(by decide +kernel), rfl⟩
theorem H2_64 : Dc method_2_code 64 (.iastore) 1 65 := ⟨(by decide +kernel), rfl⟩
theorem H2_65 : Dc method_2_code 65 (.iconst 1) 1 66 := ⟨(by decide +kernel), rfl⟩
theorem H2_66 : Dc method_2_code 66 (.ireturn) 1 67 := ⟨(by decide +kernel), rfl⟩
theorem own_stok {rs : List Nat} (h : own_ok rs = true) (i : Nat) {rb ra : Nat} (ha : ra < 5) : own_ok (own_st rs i rb ra) = true := by
  unfold own_st
  split
  · exact own_okset h _ ha
  · exact h
theorem ef_H2 (m : MethodId) (rr : Addr) (na : Int32) (nb : Int32) : entryFrame m #[(.ref rr), (.int na), (.int nb)] 5 = mkF m 0 #[.val (.ref rr), .val (.int na), .val (.int nb), .unset, .unset] [] := by first | (simp [entryFrame, mkF, argsToLocals, Value.category]; done) | rfl
set_option maxRecDepth 65536 in
set_option maxHeartbeats 40000000 in
theorem con_H2 (l : Launch) (Z : State) (a0 : Array Value) (hw : Tb tables_1 a0 Z) (rr : Addr) (na : Int32) (nb : Int32) (h0 : Heap) (n0 : Nat) (Z0 : n0 ≤ h0.size) (rs : List Nat) (a b : Nat) (A_rr : AI .int Z h0 rr (own_i rs)) (hok : own_ok rs = true) (ha : a < 5) (hb : b < 5) (ea : na = Int32.ofNat a) (eb : nb = Int32.ofNat b) (g_rr : n0 ≤ rr) :
    Con l Z (⟨"com/example/lacewood/lacewood/spanning/DisjointSetsRootPinLaw", "modelUnion", "([III)Z"⟩ : MethodName) method_2_code 5 (some (.boolean)) ({ frames := 0, cells := 0, slots := 0, locals := 0 } : Room) #[(.ref rr), (.int na), (.int nb)] h0 n0 (fun v h => h0.size ≤ h.size ∧ v = some (.int (if (own_model rs a b).2 then 1 else 0)) ∧ AI .int Z h rr (own_i (own_model rs a b).1) ∧ Keep h0 h [rr]) := by
  refine Con.of (plainFor_of_name (by decide +kernel)) Z0 ?_
  intro K hl hZ hn cx T0 X0
  subst hl hZ hn
  refine Run.cast (ef_H2 K.m rr na nb) ?_
  have hl := own_okl hok
  obtain ⟨ra, hra⟩ : ∃ z, z = rs.getD a 0 := ⟨_, rfl⟩
  obtain ⟨rb, hrb⟩ : ∃ z, z = rs.getD b 0 := ⟨_, rfl⟩
  have l1 : ra < 5 := hra ▸ own_okg hok a
  have l2 : rb < 5 := hrb ▸ own_okg hok b
  have hM : own_model rs a b = if ra = rb then (rs, false) else (own_st (own_st (own_st (own_st rs 1 rb ra) 2 rb ra) 3 rb ra) 4 rb ra, true) := by
    unfold own_model; rw [← hra, ← hrb]
  have Kp : Keep h0 h0 [rr] := Keep.refl _ _
  refine r_aloadN X0 cx H2_0 rfl ?_
  refine r_iloadN X0 cx H2_1 rfl ?_
  refine r_iaload X0 cx H2_2 A_rr (a) ea (v := (Int32.ofNat ra)) (by rw [hra]; exact own_get (by omega)) ?_
  refine r_istoreN (fun zz => #[.val (.ref rr), .val (.int na), .val (.int nb), .val (.int zz), .unset]) X0 cx H2_3 (fun _ => rfl) (fun x1 e_x1 => ?_)
  subst e_x1
  refine r_aloadN X0 cx H2_4 rfl ?_
  refine r_iloadN X0 cx H2_5 rfl ?_
  refine r_iaload X0 cx H2_6 A_rr (b) eb (v := (Int32.ofNat rb)) (by rw [hrb]; exact own_get (by omega)) ?_
  refine r_istore (fun zz => #[.val (.ref rr), .val (.int na), .val (.int nb), .val (.int (Int32.ofNat ra)), .val (.int zz)]) X0 cx H2_7 (fun _ => rfl) (fun x2 e_x2 => ?_)
  subst e_x2
  refine r_iloadN X0 cx H2_9 rfl ?_
  refine r_iload X0 cx H2_10 rfl ?_
  refine r_icmpne X0 cx H2_12 (fun c12 => ?_) (fun c12 => ?_)
  · rw [own_inj l1 l2] at c12
    rw [if_neg c12] at hM
    have k0 := hok
    have kj29 : (∀ (T' : State) (h' : Heap), Sd K T' h' 0 0 → (AI .int K.Z h' rr (own_i (own_st rs 1 rb ra)) ∧ Keep h0 h' [rr]) → Run K (fun v h => h0.size ≤ h.size ∧ v = some (.int (if (own_model rs a b).2 then 1 else 0)) ∧ AI .int K.Z h rr (own_i (own_model rs a b).1) ∧ Keep h0 h [rr]) T' (mkF K.m 29 #[.val (.ref rr), .val (.int na), .val (.int nb), .val (.int (Int32.ofNat ra)), .val (.int (Int32.ofNat rb))] [])) → Run K (fun v h => h0.size ≤ h.size ∧ v = some (.int (if (own_model rs a b).2 then 1 else 0)) ∧ AI .int K.Z h rr (own_i (own_model rs a b).1) ∧ Keep h0 h [rr]) T0 (mkF K.m 17 #[.val (.ref rr), .val (.int na), .val (.int nb), .val (.int (Int32.ofNat ra)), .val (.int (Int32.ofNat rb))] []) := by
      intro kj
      refine r_aloadN X0 cx H2_17 rfl ?_
      refine r_iconst (1) X0 cx H2_18 rfl ?_
      refine r_iaload X0 cx H2_19 A_rr (1) rfl (v := (Int32.ofNat (rs.getD 1 0))) (own_get (by rw [own_okl k0]; decide)) ?_
      refine r_iload X0 cx H2_20 rfl ?_
      refine r_icmpne X0 cx H2_22 (fun c22 => ?_) (fun c22 => ?_)
      · exact kj _ _ X0 (by rw [own_inj (own_okg k0 1) l2] at c22; rw [show (own_st rs 1 rb ra) = rs from if_neg c22]; exact ⟨A_rr, Kp⟩)
      · refine r_aloadN X0 cx H2_25 rfl ?_
        refine r_iconst (1) X0 cx H2_26 rfl ?_
        refine r_iloadN X0 cx H2_27 rfl ?_
        refine r_iastore X0 cx H2_28 A_rr (1) rfl (by rw [own_len, own_okl k0]; decide) g_rr (fun T1 h1 X1 W1 N1 => ?_)
        replace Kp := Kp.wr W1 (Or.inl (by simp))
        have A_rr := N1
        exact kj _ _ X1 (by rw [own_inj (own_okg k0 1) l2] at c22; rw [show (own_st rs 1 rb ra) = rs.set 1 ra from if_pos c22, ← own_iset]; exact ⟨A_rr, Kp⟩)
    refine kj29 (fun Tj29 hj29 Xj29 pj29 => ?_)
    obtain ⟨A_rr, Kp⟩ := pj29
    have k1 := own_stok k0 1 (rb := rb) l1
    have kj41 : (∀ (T' : State) (h' : Heap), Sd K T' h' 0 0 → (AI .int K.Z h' rr (own_i (own_st (own_st rs 1 rb ra) 2 rb ra)) ∧ Keep h0 h' [rr]) → Run K (fun v h => h0.size ≤ h.size ∧ v = some (.int (if (own_model rs a b).2 then 1 else 0)) ∧ AI .int K.Z h rr (own_i (own_model rs a b).1) ∧ Keep h0 h [rr]) T' (mkF K.m 41 #[.val (.ref rr), .val (.int na), .val (.int nb), .val (.int (Int32.ofNat ra)), .val (.int (Int32.ofNat rb))] [])) → Run K (fun v h => h0.size ≤ h.size ∧ v = some (.int (if (own_model rs a b).2 then 1 else 0)) ∧ AI .int K.Z h rr (own_i (own_model rs a b).1) ∧ Keep h0 h [rr]) Tj29 (mkF K.m 29 #[.val (.ref rr), .val (.int na), .val (.int nb), .val (.int (Int32.ofNat ra)), .val (.int (Int32.ofNat rb))] []) := by
      intro kj
      refine r_aloadN Xj29 cx H2_29 rfl ?_
      refine r_iconst (2) Xj29 cx H2_30 rfl ?_
      refine r_iaload Xj29 cx H2_31 A_rr (2) rfl (v := (Int32.ofNat ((own_st rs 1 rb ra).getD 2 0))) (own_get (by rw [own_okl k1]; decide)) ?_
      refine r_iload Xj29 cx H2_32 rfl ?_
      refine r_icmpne Xj29 cx H2_34 (fun c34 => ?_) (fun c34 => ?_)
      · exact kj _ _ Xj29 (by rw [own_inj (own_okg k1 2) l2] at c34; rw [show (own_st (own_st rs 1 rb ra) 2 rb ra) = (own_st rs 1 rb ra) from if_neg c34]; exact ⟨A_rr, Kp⟩)
      · refine r_aloadN Xj29 cx H2_37 rfl ?_
        refine r_iconst (2) Xj29 cx H2_38 rfl ?_
        refine r_iloadN Xj29 cx H2_39 rfl ?_
        refine r_iastore Xj29 cx H2_40 A_rr (2) rfl (by rw [own_len, own_okl k1]; decide) g_rr (fun T51 h51 X51 W51 N51 => ?_)
        replace Kp := Kp.wr W51 (Or.inl (by simp))
        have A_rr := N51
        exact kj _ _ X51 (by rw [own_inj (own_okg k1 2) l2] at c34; rw [show (own_st (own_st rs 1 rb ra) 2 rb ra) = (own_st rs 1 rb ra).set 2 ra from if_pos c34, ← own_iset]; exact ⟨A_rr, Kp⟩)
    refine kj41 (fun Tj41 hj41 Xj41 pj41 => ?_)
    obtain ⟨A_rr, Kp⟩ := pj41
    have k2 := own_stok k1 2 (rb := rb) l1
    have kj53 : (∀ (T' : State) (h' : Heap), Sd K T' h' 0 0 → (AI .int K.Z h' rr (own_i (own_st (own_st (own_st rs 1 rb ra) 2 rb ra) 3 rb ra)) ∧ Keep h0 h' [rr]) → Run K (fun v h => h0.size ≤ h.size ∧ v = some (.int (if (own_model rs a b).2 then 1 else 0)) ∧ AI .int K.Z h rr (own_i (own_model rs a b).1) ∧ Keep h0 h [rr]) T' (mkF K.m 53 #[.val (.ref rr), .val (.int na), .val (.int nb), .val (.int (Int32.ofNat ra)), .val (.int (Int32.ofNat rb))] [])) → Run K (fun v h => h0.size ≤ h.size ∧ v = some (.int (if (own_model rs a b).2 then 1 else 0)) ∧ AI .int K.Z h rr (own_i (own_model rs a b).1) ∧ Keep h0 h [rr]) Tj41 (mkF K.m 41 #[.val (.ref rr), .val (.int na), .val (.int nb), .val (.int (Int32.ofNat ra)), .val (.int (Int32.ofNat rb))] []) := by
      intro kj
      refine r_aloadN Xj41 cx H2_41 rfl ?_
      refine r_iconst (3) Xj41 cx H2_42 rfl ?_
      refine r_iaload Xj41 cx H2_43 A_rr (3) rfl (v := (Int32.ofNat ((own_st (own_st rs 1 rb ra) 2 rb ra).getD 3 0))) (own_get (by rw [own_okl k2]; decide)) ?_
      refine r_iload Xj41 cx H2_44 rfl ?_
      refine r_icmpne Xj41 cx H2_46 (fun c46 => ?_) (fun c46 => ?_)
      · exact kj _ _ Xj41 (by rw [own_inj (own_okg k2 3) l2] at c46; rw [show (own_st (own_st (own_st rs 1 rb ra) 2 rb ra) 3 rb ra) = (own_st (own_st rs 1 rb ra) 2 rb ra) from if_neg c46]; exact ⟨A_rr, Kp⟩)
      · refine r_aloadN Xj41 cx H2_49 rfl ?_
        refine r_iconst (3) Xj41 cx H2_50 rfl ?_
        refine r_iloadN Xj41 cx H2_51 rfl ?_
        refine r_iastore Xj41 cx H2_52 A_rr (3) rfl (by rw [own_len, own_okl k2]; decide) g_rr (fun T101 h101 X101 W101 N101 => ?_)
        replace Kp := Kp.wr W101 (Or.inl (by simp))
        have A_rr := N101
        exact kj _ _ X101 (by rw [own_inj (own_okg k2 3) l2] at c46; rw [show (own_st (own_st (own_st rs 1 rb ra) 2 rb ra) 3 rb ra) = (own_st (own_st rs 1 rb ra) 2 rb ra).set 3 ra from if_pos c46, ← own_iset]; exact ⟨A_rr, Kp⟩)
    refine kj53 (fun Tj53 hj53 Xj53 pj53 => ?_)
    obtain ⟨A_rr, Kp⟩ := pj53
    have k3 := own_stok k2 3 (rb := rb) l1
    have kj65 : (∀ (T' : State) (h' : Heap), Sd K T' h' 0 0 → (AI .int K.Z h' rr (own_i (own_st (own_st (own_st (own_st rs 1 rb ra) 2 rb ra) 3 rb ra) 4 rb ra)) ∧ Keep h0 h' [rr]) → Run K (fun v h => h0.size ≤ h.size ∧ v = some (.int (if (own_model rs a b).2 then 1 else 0)) ∧ AI .int K.Z h rr (own_i (own_model rs a b).1) ∧ Keep h0 h [rr]) T' (mkF K.m 65 #[.val (.ref rr), .val (.int na), .val (.int nb), .val (.int (Int32.ofNat ra)), .val (.int (Int32.ofNat rb))] [])) → Run K (fun v h => h0.size ≤ h.size ∧ v = some (.int (if (own_model rs a b).2 then 1 else 0)) ∧ AI .int K.Z h rr (own_i (own_model rs a b).1) ∧ Keep h0 h [rr]) Tj53 (mkF K.m 53 #[.val (.ref rr), .val (.int na), .val (.int nb), .val (.int (Int32.ofNat ra)), .val (.int (Int32.ofNat rb))] []) := by
      intro kj
      refine r_aloadN Xj53 cx H2_53 rfl ?_
      refine r_iconst (4) Xj53 cx H2_54 rfl ?_
      refine r_iaload Xj53 cx H2_55 A_rr (4) rfl (v := (Int32.ofNat ((own_st (own_st (own_st rs 1 rb ra) 2 rb ra) 3 rb ra).getD 4 0))) (own_get (by rw [own_okl k3]; decide)) ?_
      refine r_iload Xj53 cx H2_56 rfl ?_
      refine r_icmpne Xj53 cx H2_58 (fun c58 => ?_) (fun c58 => ?_)
      · exact kj _ _ Xj53 (by rw [own_inj (own_okg k3 4) l2] at c58; rw [show (own_st (own_st (own_st (own_st rs 1 rb ra) 2 rb ra) 3 rb ra) 4 rb ra) = (own_st (own_st (own_st rs 1 rb ra) 2 rb ra) 3 rb ra) from if_neg c58]; exact ⟨A_rr, Kp⟩)
      · refine r_aloadN Xj53 cx H2_61 rfl ?_
        refine r_iconst (4) Xj53 cx H2_62 rfl ?_
        refine r_iloadN Xj53 cx H2_63 rfl ?_
        refine r_iastore Xj53 cx H2_64 A_rr (4) rfl (by rw [own_len, own_okl k3]; decide) g_rr (fun T151 h151 X151 W151 N151 => ?_)
        replace Kp := Kp.wr W151 (Or.inl (by simp))
        have A_rr := N151
        exact kj _ _ X151 (by rw [own_inj (own_okg k3 4) l2] at c58; rw [show (own_st (own_st (own_st (own_st rs 1 rb ra) 2 rb ra) 3 rb ra) 4 rb ra) = (own_st (own_st (own_st rs 1 rb ra) 2 rb ra) 3 rb ra).set 4 ra from if_pos c58, ← own_iset]; exact ⟨A_rr, Kp⟩)
    refine kj65 (fun Tj65 hj65 Xj65 pj65 => ?_)
    obtain ⟨A_rr, Kp⟩ := pj65
    have k4 := own_stok k3 4 (rb := rb) l1
    refine r_iconst (1) Xj65 cx H2_65 rfl ?_
    refine r_zreturn Xj65 cx H2_66 (by decide) (by decide) ?_
    rw [hM]
    exact ⟨Kp.1, rfl, A_rr, Kp⟩
  · refine r_iconst (0) X0 cx H2_15 rfl ?_
    refine r_zreturn X0 cx H2_16 (by decide) (by decide) ?_
    rw [own_inj l1 l2] at c12
    rw [if_pos c12] at hM
    rw [hM]
    exact ⟨Kp.1, rfl, A_rr, Kp⟩
theorem H4_0 : Dc method_4_code 0 (.aload_n 1) 1 1 := ⟨(by decide +kernel), rfl⟩
theorem H4_1 : Dc method_4_code 1 (.iload_n 2) 1 2 := ⟨(by decide +kernel), rfl⟩
theorem H4_2 : Dc method_4_code 2 (.iaload) 1 3 := ⟨(by decide +kernel), rfl⟩
theorem H4_3 : Dc method_4_code 3 (.istore_n 3) 1 4 := ⟨(by decide +kernel), rfl⟩
theorem H4_4 : Dc method_4_code 4 (.iload_n 3) 1 5 := ⟨(by decide +kernel), rfl⟩
theorem H4_5 : Dc method_4_code 5 (.iconst 1) 1 6 := ⟨(by decide +kernel), rfl⟩
theorem H4_6 : Db method_4_code 6 (.if_icmp .lt 8) (8) 9 14 := ⟨(by decide +kernel), rfl, by decide, by decide⟩
theorem H4_9 : Dc method_4_code 9 (.iload_n 3) 1 10 := ⟨(by decide +kernel), rfl⟩
theorem H4_10 : Dc method_4_code 10 (.iconst 4) 1 11 := ⟨(by decide +kernel), rfl⟩
theorem H4_11 : Db method_4_code 11 (.if_icmp .le 5) (5) 14 16 := ⟨(by decide +kernel), rfl, by decide, by decide⟩
theorem H4_14 : Dc method_4_code 14 (.iconst 0) 1 15 := ⟨(by decide +kernel), rfl⟩
theorem H4_15 : Dc method_4_code 15 (.ireturn) 1 16 := ⟨(by decide +kernel), rfl⟩
theorem H4_16 : Dc method_4_code 16 (.aload_n 0) 1 17 := ⟨(by decide +kernel), rfl⟩
theorem H4_17 : Dc method_4_code 17 (.iload_n 3) 1 18 := ⟨(by decide +kernel), rfl⟩
theorem H4_18 : Dc method_4_code 18 (.iaload) 1 19 := ⟨(by decide +kernel), rfl⟩
theorem H4_19 : Dc method_4_code 19 (.aload_n 0) 1 20 := ⟨(by decide +kernel), rfl⟩
theorem H4_20 : Dc method_4_code 20 (.iload_n 2) 1 21 := ⟨(by decide +kernel), rfl⟩
theorem H4_21 : Dc method_4_code 21 (.iaload) 1 22 := ⟨(by decide +kernel), rfl⟩
theorem H4_22 : Db method_4_code 22 (.if_icmp .ne 7) (7) 25 29 := ⟨(by decide +kernel), rfl, by decide, by decide⟩
theorem H4_25 : Dc method_4_code 25 (.iconst 1) 1 26 := ⟨(by decide +kernel), rfl⟩
theorem H4_26 : Db method_4_code 26 (.goto 4) (4) 29 30 := ⟨(by decide +kernel), rfl, by decide, by decide⟩
theorem H4_29 : Dc method_4_code 29 (.iconst 0) 1 30 := ⟨(by decide +kernel), rfl⟩
theorem H4_30 : Dc method_4_code 30 (.ireturn) 1 31 := ⟨(by decide +kernel), rfl⟩
theorem ef_H4 (m : MethodId) (rr : Addr) (ro : Addr) (nv : Int32) : entryFrame m #[(.ref rr), (.ref ro), (.int nv)] 4 = mkF m 0 #[.val (.ref rr), .val (.ref ro), .val (.int nv), .unset] [] := by first | (simp [entryFrame, mkF, argsToLocals, Value.category]; done) | rfl
set_option maxRecDepth 65536 in
set_option maxHeartbeats 40000000 in
theorem con_H4 (l : Launch) (Z : State) (a0 : Array Value) (hw : Tb tables_1 a0 Z) (rr : Addr) (ro : Addr) (nv : Int32) (h0 : Heap) (n0 : Nat) (Z0 : n0 ≤ h0.size) (rs os : List Nat) (a : Nat) (A_rr : AI .int Z h0 rr (own_i rs)) (A_ro : AI .int Z h0 ro (own_i os)) (hok : own_ok rs = true) (hoo : own_ok os = true) (ha : a < 5) (ea : nv = Int32.ofNat a) :
    Con l Z (⟨"com/example/lacewood/lacewood/spanning/DisjointSetsRootPinLaw", "memberOk", "([I[II)Z"⟩ : MethodName) method_4_code 4 (some (.boolean)) ({ frames := 0, cells := 0, slots := 0, locals := 0 } : Room) #[(.ref rr), (.ref ro), (.int nv)] h0 n0 (fun v h => h0 = h ∧ v = some (.int (if own_mem rs os a then 1 else 0))) := by
  refine Con.of (plainFor_of_name (by decide +kernel)) Z0 ?_
  intro K hl hZ hn cx T0 X0
  subst hl hZ hn
  refine Run.cast (ef_H4 K.m rr ro nv) ?_
  have hl := own_okl hok; have hl2 := own_okl hoo
  have ho := own_okg hoo a
  refine r_aloadN X0 cx H4_0 rfl ?_
  refine r_iloadN X0 cx H4_1 rfl ?_
  refine r_iaload X0 cx H4_2 A_ro (a) ea (v := (Int32.ofNat (os.getD a 0))) (own_get (by omega)) ?_
  refine r_istoreN (fun zz => #[.val (.ref rr), .val (.ref ro), .val (.int nv), .val (.int zz)]) X0 cx H4_3 (fun _ => rfl) (fun r e_r => ?_)
  refine r_iloadN X0 cx H4_4 rfl ?_
  refine r_iconst (1) X0 cx H4_5 rfl ?_
  refine r_icmplt X0 cx H4_6 (fun c6 => ?_) (fun c6 => ?_)
  · refine r_iconst (0) X0 cx H4_14 rfl ?_
    refine r_zreturn X0 cx H4_15 (by decide) (by decide) ?_
    have j1 : r < 1 ↔ os.getD a 0 < 1 := by rw [e_r]; exact own_ltn (b := 1) (by omega) (by decide)
    have j2 : 4 < r ↔ 4 < os.getD a 0 := by rw [e_r]; exact own_ltn (a := 4) (by decide) (by omega)
    refine ⟨rfl, ?_⟩
    unfold own_mem
    rw [j1] at c6
    rw [if_neg (by simp only [Bool.and_eq_true, decide_eq_true_eq, beq_iff_eq]; omega)]; rfl
  · refine r_iloadN X0 cx H4_9 rfl ?_
    refine r_iconst (4) X0 cx H4_10 rfl ?_
    refine r_icmple X0 cx H4_11 (fun c11 => ?_) (fun c11 => ?_)
    · refine r_aloadN X0 cx H4_16 rfl ?_
      refine r_iloadN X0 cx H4_17 rfl ?_
      refine r_iaload X0 cx H4_18 A_rr (os.getD a 0) e_r (v := (Int32.ofNat (rs.getD (os.getD a 0) 0))) (own_get (by omega)) ?_
      refine r_aloadN X0 cx H4_19 rfl ?_
      refine r_iloadN X0 cx H4_20 rfl ?_
      refine r_iaload X0 cx H4_21 A_rr (a) ea (v := (Int32.ofNat (rs.getD a 0))) (own_get (by omega)) ?_
      refine r_icmpne X0 cx H4_22 (fun c22 => ?_) (fun c22 => ?_)
      · refine r_iconst (0) X0 cx H4_29 rfl ?_
        refine r_zreturn X0 cx H4_30 (by decide) (by decide) ?_
        have j1 : r < 1 ↔ os.getD a 0 < 1 := by rw [e_r]; exact own_ltn (b := 1) (by omega) (by decide)
        have j2 : 4 < r ↔ 4 < os.getD a 0 := by rw [e_r]; exact own_ltn (a := 4) (by decide) (by omega)
        rw [j1] at c6
        rw [j2] at c11
        rw [own_inj (own_okg hok _) (own_okg hok _)] at c22
        refine ⟨rfl, ?_⟩
        unfold own_mem
        first | (rw [if_pos (by simp only [Bool.and_eq_true, decide_eq_true_eq, beq_iff_eq]; omega)]; rfl) | (rw [if_neg (by simp only [Bool.and_eq_true, decide_eq_true_eq, beq_iff_eq]; omega)]; rfl)
      · refine r_iconst (1) X0 cx H4_25 rfl ?_
        refine r_goto X0 cx H4_26 ?_
        refine r_zreturn X0 cx H4_30 (by decide) (by decide) ?_
        have j1 : r < 1 ↔ os.getD a 0 < 1 := by rw [e_r]; exact own_ltn (b := 1) (by omega) (by decide)
        have j2 : 4 < r ↔ 4 < os.getD a 0 := by rw [e_r]; exact own_ltn (a := 4) (by decide) (by omega)
        rw [j1] at c6
        rw [j2] at c11
        rw [own_inj (own_okg hok _) (own_okg hok _)] at c22
        refine ⟨rfl, ?_⟩
        unfold own_mem
        first | (rw [if_pos (by simp only [Bool.and_eq_true, decide_eq_true_eq, beq_iff_eq]; omega)]; rfl) | (rw [if_neg (by simp only [Bool.and_eq_true, decide_eq_true_eq, beq_iff_eq]; omega)]; rfl)
    · refine r_iconst (0) X0 cx H4_14 rfl ?_
      refine r_zreturn X0 cx H4_15 (by decide) (by decide) ?_
      have j1 : r < 1 ↔ os.getD a 0 < 1 := by rw [e_r]; exact own_ltn (b := 1) (by omega) (by decide)
      have j2 : 4 < r ↔ 4 < os.getD a 0 := by rw [e_r]; exact own_ltn (a := 4) (by decide) (by omega)
      refine ⟨rfl, ?_⟩
      unfold own_mem
      rw [j2] at c11
      rw [if_neg (by simp only [Bool.and_eq_true, decide_eq_true_eq, beq_iff_eq]; omega)]; rfl
theorem H3_0 : Dc method_3_code 0 (.aload_n 1) 1 1 := ⟨(by decide +kernel), rfl⟩
theorem H3_1 : Dc method_3_code 1 (.iload_n 2) 1 2 := ⟨(by decide +kernel), rfl⟩
theorem H3_2 : Dc method_3_code 2 (.iaload) 1 3 := ⟨(by decide +kernel), rfl⟩
theorem H3_3 : Dc method_3_code 3 (.aload_n 1) 1 4 := ⟨(by decide +kernel), rfl⟩
theorem H3_4 : Dc method_3_code 4 (.iload_n 3) 1 5 := ⟨(by decide +kernel), rfl⟩
theorem H3_5 : Dc method_3_code 5 (.iaload) 1 6 := ⟨(by decide +kernel), rfl⟩
theorem H3_6 : Db method_3_code 6 (.if_icmp .ne 7) (7) 9 13 := ⟨(by decide +kernel), rfl, by decide, by decide⟩
theorem H3_9 : Dc method_3_code 9 (.iconst 1) 1 10 := ⟨(by decide +kernel), rfl⟩
theorem H3_10 : Db method_3_code 10 (.goto 4) (4) 13 14 := ⟨(by decide +kernel), rfl, by decide, by decide⟩
theorem H3_13 : Dc method_3_code 13 (.iconst 0) 1 14 := ⟨(by decide +kernel), rfl⟩
theorem H3_14 : Dc method_3_code 14 (.aload_n 0) 1 15 := ⟨(by decide +kernel), rfl⟩
theorem H3_15 : Dc method_3_code 15 (.iload_n 2) 1 16 := ⟨(by decide +kernel), rfl⟩
theorem H3_16 : Dc method_3_code 16 (.iaload) 1 17 := ⟨(by decide +kernel), rfl⟩
theorem H3_17 : Dc method_3_code 17 (.aload_n 0) 1 18 := ⟨(by decide +kernel), rfl⟩
theorem H3_18 : Dc method_3_code 18 (.iload_n 3) 1 19 := ⟨(by decide +kernel), rfl⟩
theorem H3_19 : Dc method_3_code 19 (.iaload) 1 20 := ⟨(by decide +kernel), rfl⟩
theorem H3_20 : Db method_3_code 20 (.if_icmp .ne 7) (7) 23 27 := ⟨(by decide +kernel), rfl, by decide, by decide⟩
theorem H3_23 : Dc method_3_code 23 (.iconst 1) 1 24 := ⟨(by decide +kernel), rfl⟩
theorem H3_24 : Db method_3_code 24 (.goto 4) (4) 27 28 := ⟨(by decide +kernel), rfl, by decide, by decide⟩
theorem H3_27 : Dc method_3_code 27 (.iconst 0) 1 28 := ⟨(by decide +kernel), rfl⟩
theorem H3_28 : Db method_3_code 28 (.if_icmp .ne 7) (7) 31 35 := ⟨(by decide +kernel), rfl, by decide, by decide⟩
theorem H3_31 : Dc method_3_code 31 (.iconst 1) 1 32 := ⟨(by decide +kernel), rfl⟩
theorem H3_32 : Db method_3_code 32 (.goto 4) (4) 35 36 := ⟨(by decide +kernel), rfl, by decide, by decide⟩
theorem H3_35 : Dc method_3_code 35 (.iconst 0) 1 36 := ⟨(by decide +kernel), rfl⟩
theorem H3_36 : Dc method_3_code 36 (.ireturn) 1 37 := ⟨(by decide +kernel), rfl⟩
theorem ef_H3 (m : MethodId) (rr : Addr) (ro : Addr) (nu : Int32) (nv : Int32) : entryFrame m #[(.ref rr), (.ref ro), (.int nu), (.int nv)] 4 = mkF m 0 #[.val (.ref rr), .val (.ref ro), .val (.int nu), .val (.int nv)] [] := by first | (simp [entryFrame, mkF, argsToLocals, Value.category]; done) | rfl
set_option maxRecDepth 65536 in
set_option maxHeartbeats 40000000 in
theorem con_H3 (l : Launch) (Z : State) (a0 : Array Value) (hw : Tb tables_1 a0 Z) (rr : Addr) (ro : Addr) (nu : Int32) (nv : Int32) (h0 : Heap) (n0 : Nat) (Z0 : n0 ≤ h0.size) (rs os : List Nat) (a b : Nat) (A_rr : AI .int Z h0 rr (own_i rs)) (A_ro : AI .int Z h0 ro (own_i os)) (hok : own_ok rs = true) (hoo : own_ok os = true) (ha : a < 5) (hb : b < 5) (ea : nu = Int32.ofNat a) (eb : nv = Int32.ofNat b) :
    Con l Z (⟨"com/example/lacewood/lacewood/spanning/DisjointSetsRootPinLaw", "pairOk", "([I[III)Z"⟩ : MethodName) method_3_code 4 (some (.boolean)) ({ frames := 0, cells := 0, slots := 0, locals := 0 } : Room) #[(.ref rr), (.ref ro), (.int nu), (.int nv)] h0 n0 (fun v h => h0 = h ∧ v = some (.int (if own_pair rs os a b then 1 else 0))) := by
  refine Con.of (plainFor_of_name (by decide +kernel)) Z0 ?_
  intro K hl hZ hn cx T0 X0
  subst hl hZ hn
  refine Run.cast (ef_H3 K.m rr ro nu nv) ?_
  have hl := own_okl hok; have hl2 := own_okl hoo
  refine r_aloadN X0 cx H3_0 rfl ?_
  refine r_iloadN X0 cx H3_1 rfl ?_
  refine r_iaload X0 cx H3_2 A_ro (a) ea (v := (Int32.ofNat (os.getD a 0))) (own_get (by omega)) ?_
  refine r_aloadN X0 cx H3_3 rfl ?_
  refine r_iloadN X0 cx H3_4 rfl ?_
  refine r_iaload X0 cx H3_5 A_ro (b) eb (v := (Int32.ofNat (os.getD b 0))) (own_get (by omega)) ?_
  refine r_icmpne X0 cx H3_6 (fun c6 => ?_) (fun c6 => ?_)
  · refine r_iconst (0) X0 cx H3_13 rfl ?_
    refine r_aloadN X0 cx H3_14 rfl ?_
    refine r_iloadN X0 cx H3_15 rfl ?_
    refine r_iaload X0 cx H3_16 A_rr (a) ea (v := (Int32.ofNat (rs.getD a 0))) (own_get (by omega)) ?_
    refine r_aloadN X0 cx H3_17 rfl ?_
    refine r_iloadN X0 cx H3_18 rfl ?_
    refine r_iaload X0 cx H3_19 A_rr (b) eb (v := (Int32.ofNat (rs.getD b 0))) (own_get (by omega)) ?_
    refine r_icmpne X0 cx H3_20 (fun c20 => ?_) (fun c20 => ?_)
    · refine r_iconst (0) X0 cx H3_27 rfl ?_
      refine r_icmpne X0 cx H3_28 (fun c => absurd c (by decide)) (fun _ => ?_)
      refine r_iconst (1) X0 cx H3_31 rfl ?_
      refine r_goto X0 cx H3_32 ?_
      refine r_zreturn X0 cx H3_36 (by decide) (by decide) ?_
      rw [own_inj (own_okg hoo _) (own_okg hoo _)] at c6
      rw [own_inj (own_okg hok _) (own_okg hok _)] at c20
      refine ⟨rfl, ?_⟩
      unfold own_pair
      revert c6 c20
      generalize os.getD a 0 = p
      generalize os.getD b 0 = q
      generalize rs.getD a 0 = s
      generalize rs.getD b 0 = t
      intro c6 c20
      rw [show (p == q) = _ from by first | exact beq_iff_eq.mpr c6 | exact beq_eq_false_iff_ne.mpr c6, show (s == t) = _ from by first | exact beq_iff_eq.mpr c20 | exact beq_eq_false_iff_ne.mpr c20]
      rfl
    · refine r_iconst (1) X0 cx H3_23 rfl ?_
      refine r_goto X0 cx H3_24 ?_
      refine r_icmpne X0 cx H3_28 (fun _ => ?_) (fun c => absurd c (by decide))
      refine r_iconst (0) X0 cx H3_35 rfl ?_
      refine r_zreturn X0 cx H3_36 (by decide) (by decide) ?_
      rw [own_inj (own_okg hoo _) (own_okg hoo _)] at c6
      rw [own_inj (own_okg hok _) (own_okg hok _)] at c20
      refine ⟨rfl, ?_⟩
      unfold own_pair
      revert c6 c20
      generalize os.getD a 0 = p
      generalize os.getD b 0 = q
      generalize rs.getD a 0 = s
      generalize rs.getD b 0 = t
      intro c6 c20
      rw [show (p == q) = _ from by first | exact beq_iff_eq.mpr c6 | exact beq_eq_false_iff_ne.mpr c6, show (s == t) = _ from by first | exact beq_iff_eq.mpr c20 | exact beq_eq_false_iff_ne.mpr c20]
      rfl
  · refine r_iconst (1) X0 cx H3_9 rfl ?_
    refine r_goto X0 cx H3_10 ?_
    refine r_aloadN X0 cx H3_14 rfl ?_
    refine r_iloadN X0 cx H3_15 rfl ?_
    refine r_iaload X0 cx H3_16 A_rr (a) ea (v := (Int32.ofNat (rs.getD a 0))) (own_get (by omega)) ?_
    refine r_aloadN X0 cx H3_17 rfl ?_
    refine r_iloadN X0 cx H3_18 rfl ?_
    refine r_iaload X0 cx H3_19 A_rr (b) eb (v := (Int32.ofNat (rs.getD b 0))) (own_get (by omega)) ?_
    refine r_icmpne X0 cx H3_20 (fun c20 => ?_) (fun c20 => ?_)
    · refine r_iconst (0) X0 cx H3_27 rfl ?_
      refine r_icmpne X0 cx H3_28 (fun _ => ?_) (fun c => absurd c (by decide))
      refine r_iconst (0) X0 cx H3_35 rfl ?_
      refine r_zreturn X0 cx H3_36 (by decide) (by decide) ?_
      rw [own_inj (own_okg hoo _) (own_okg hoo _)] at c6
      rw [own_inj (own_okg hok _) (own_okg hok _)] at c20
      refine ⟨rfl, ?_⟩
      unfold own_pair
      revert c6 c20
      generalize os.getD a 0 = p
      generalize os.getD b 0 = q
      generalize rs.getD a 0 = s
      generalize rs.getD b 0 = t
      intro c6 c20
      rw [show (p == q) = _ from by first | exact beq_iff_eq.mpr c6 | exact beq_eq_false_iff_ne.mpr c6, show (s == t) = _ from by first | exact beq_iff_eq.mpr c20 | exact beq_eq_false_iff_ne.mpr c20]
      rfl
    · refine r_iconst (1) X0 cx H3_23 rfl ?_
      refine r_goto X0 cx H3_24 ?_
      refine r_icmpne X0 cx H3_28 (fun c => absurd c (by decide)) (fun _ => ?_)
      refine r_iconst (1) X0 cx H3_31 rfl ?_
      refine r_goto X0 cx H3_32 ?_
      refine r_zreturn X0 cx H3_36 (by decide) (by decide) ?_
      rw [own_inj (own_okg hoo _) (own_okg hoo _)] at c6
      rw [own_inj (own_okg hok _) (own_okg hok _)] at c20
      refine ⟨rfl, ?_⟩
      unfold own_pair
      revert c6 c20
      generalize os.getD a 0 = p
      generalize os.getD b 0 = q
      generalize rs.getD a 0 = s
      generalize rs.getD b 0 = t
      intro c6 c20
      rw [show (p == q) = _ from by first | exact beq_iff_eq.mpr c6 | exact beq_eq_false_iff_ne.mpr c6, show (s == t) = _ from by first | exact beq_iff_eq.mpr c20 | exact beq_eq_false_iff_ne.mpr c20]
      rfl
theorem own_14 (x : Int32) : ∃ v : Nat, 1 ≤ v ∧ v ≤ 4 ∧ (1 : Int32) + (x &&& 3) = Int32.ofNat v := by
  have h : (x &&& 3).toBitVec.toNat ≤ 3 := by
    simp only [Int32.toBitVec_and, BitVec.toNat_and]; exact Nat.and_le_right
  have e : (x &&& 3) = Int32.ofNat (x &&& 3).toBitVec.toNat := by
    apply Int32.toBitVec_inj.mp
    show _ = BitVec.ofNat 32 _
    rw [BitVec.ofNat_toNat]; simp
  refine ⟨1 + (x &&& 3).toBitVec.toNat, by omega, by omega, ?_⟩
  rw [Int32.ofNat_add, ← e]; rfl
theorem own_uok {ps ss : List Nat} {a b : Nat} (h : own_ok ps = true) (ha : a < 5) (hb : b < 5) : own_ok (own_union ps ss a b).1 = true := by
  have o1 := own_rok 9 ps a h ha
  have o2 := own_rok 9 (own_root 9 ps a).1 b o1.1 hb
  unfold own_union
  simp only
  split
  · exact o2.1
  · split
    · exact own_okset o2.1 _ o2.2
    · exact own_okset o2.1 _ o1.2
theorem own_trip {α β γ : Type} (x : α × β × γ) : x = (x.1, x.2.1, x.2.2) := rfl
theorem L_0 : Dc code 0 (.new 7) 3 3 := ⟨at_0, rfl⟩
theorem L_3 : Dc code 3 (.dup) 1 4 := ⟨at_3, rfl⟩
theorem L_4 : Dc code 4 (.iconst 4) 1 5 := ⟨at_4, rfl⟩
theorem L_5 : Dc code 5 (.invokespecial 9) 3 8 := ⟨at_5, rfl⟩
theorem L_8 : Dc code 8 (.astore 4) 2 10 := ⟨at_8, rfl⟩
theorem L_10 : Dc code 10 (.iconst 5) 1 11 := ⟨at_10, rfl⟩
theorem L_11 : Dc code 11 (.newarray .int) 2 13 := ⟨at_11, rfl⟩
theorem L_13 : Dc code 13 (.dup) 1 14 := ⟨at_13, rfl⟩
theorem L_14 : Dc code 14 (.iconst 0) 1 15 := ⟨at_14, rfl⟩
theorem L_15 : Dc code 15 (.iconst 0) 1 16 := ⟨at_15, rfl⟩
theorem L_16 : Dc code 16 (.iastore) 1 17 := ⟨at_16, rfl⟩
theorem L_17 : Dc code 17 (.dup) 1 18 := ⟨at_17, rfl⟩
theorem L_18 : Dc code 18 (.iconst 1) 1 19 := ⟨at_18, rfl⟩
theorem L_19 : Dc code 19 (.iconst 1) 1 20 := ⟨at_19, rfl⟩
theorem L_20 : Dc code 20 (.iastore) 1 21 := ⟨at_20, rfl⟩
theorem L_21 : Dc code 21 (.dup) 1 22 := ⟨at_21, rfl⟩
theorem L_22 : Dc code 22 (.iconst 2) 1 23 := ⟨at_22, rfl⟩
theorem L_23 : Dc code 23 (.iconst 2) 1 24 := ⟨at_23, rfl⟩
theorem L_24 : Dc code 24 (.iastore) 1 25 := ⟨at_24, rfl⟩
theorem L_25 : Dc code 25 (.dup) 1 26 := ⟨at_25, rfl⟩
theorem L_26 : Dc code 26 (.iconst 3) 1 27 := ⟨at_26, rfl⟩
theorem L_27 : Dc code 27 (.iconst 3) 1 28 := ⟨at_27, rfl⟩
theorem L_28 : Dc code 28 (.iastore) 1 29 := ⟨at_28, rfl⟩
theorem L_29 : Dc code 29 (.dup) 1 30 := ⟨at_29, rfl⟩
theorem L_30 : Dc code 30 (.iconst 4) 1 31 := ⟨at_30, rfl⟩
theorem L_31 : Dc code 31 (.iconst 4) 1 32 := ⟨at_31, rfl⟩
theorem L_32 : Dc code 32 (.iastore) 1 33 := ⟨at_32, rfl⟩
theorem L_33 : Dc code 33 (.astore 5) 2 35 := ⟨at_33, rfl⟩
theorem L_35 : Dc code 35 (.iconst 1) 1 36 := ⟨at_35, rfl⟩
theorem L_36 : Dc code 36 (.iload_n 0) 1 37 := ⟨at_36, rfl⟩
theorem L_37 : Dc code 37 (.iconst 3) 1 38 := ⟨at_37, rfl⟩
theorem L_38 : Dc code 38 (.iand) 1 39 := ⟨at_38, rfl⟩
theorem L_39 : Dc code 39 (.iadd) 1 40 := ⟨at_39, rfl⟩
theorem L_40 : Dc code 40 (.istore 6) 2 42 := ⟨at_40, rfl⟩
theorem L_42 : Dc code 42 (.iconst 1) 1 43 := ⟨at_42, rfl⟩
theorem L_43 : Dc code 43 (.iload_n 0) 1 44 := ⟨at_43, rfl⟩
theorem L_44 : Dc code 44 (.iconst 2) 1 45 := ⟨at_44, rfl⟩
theorem L_45 : Dc code 45 (.iushr) 1 46 := ⟨at_45, rfl⟩
theorem L_46 : Dc code 46 (.iconst 3) 1 47 := ⟨at_46, rfl⟩
theorem L_47 : Dc code 47 (.iand) 1 48 := ⟨at_47, rfl⟩
theorem L_48 : Dc code 48 (.iadd) 1 49 := ⟨at_48, rfl⟩
theorem L_49 : Dc code 49 (.istore 7) 2 51 := ⟨at_49, rfl⟩
theorem L_51 : Dc code 51 (.iconst 1) 1 52 := ⟨at_51, rfl⟩
theorem L_52 : Dc code 52 (.iload_n 1) 1 53 := ⟨at_52, rfl⟩
theorem L_53 : Dc code 53 (.iconst 3) 1 54 := ⟨at_53, rfl⟩
theorem L_54 : Dc code 54 (.iand) 1 55 := ⟨at_54, rfl⟩
theorem L_55 : Dc code 55 (.iadd) 1 56 := ⟨at_55, rfl⟩
theorem L_56 : Dc code 56 (.istore 8) 2 58 := ⟨at_56, rfl⟩
theorem L_58 : Dc code 58 (.iconst 1) 1 59 := ⟨at_58, rfl⟩
theorem L_59 : Dc code 59 (.iload_n 1) 1 60 := ⟨at_59, rfl⟩
theorem L_60 : Dc code 60 (.iconst 2) 1 61 := ⟨at_60, rfl⟩
theorem L_61 : Dc code 61 (.iushr) 1 62 := ⟨at_61, rfl⟩
theorem L_62 : Dc code 62 (.iconst 3) 1 63 := ⟨at_62, rfl⟩
theorem L_63 : Dc code 63 (.iand) 1 64 := ⟨at_63, rfl⟩
theorem L_64 : Dc code 64 (.iadd) 1 65 := ⟨at_64, rfl⟩
theorem L_65 : Dc code 65 (.istore 9) 2 67 := ⟨at_65, rfl⟩
theorem L_67 : Dc code 67 (.iconst 1) 1 68 := ⟨at_67, rfl⟩
theorem L_68 : Dc code 68 (.iload_n 2) 1 69 := ⟨at_68, rfl⟩
theorem L_69 : Dc code 69 (.iconst 3) 1 70 := ⟨at_69, rfl⟩
theorem L_70 : Dc code 70 (.iand) 1 71 := ⟨at_70, rfl⟩
theorem L_71 : Dc code 71 (.iadd) 1 72 := ⟨at_71, rfl⟩
theorem L_72 : Dc code 72 (.istore 10) 2 74 := ⟨at_72, rfl⟩
theorem L_74 : Dc code 74 (.iconst 1) 1 75 := ⟨at_74, rfl⟩
theorem L_75 : Dc code 75 (.iload_n 2) 1 76 := ⟨at_75, rfl⟩
theorem L_76 : Dc code 76 (.iconst 2) 1 77 := ⟨at_76, rfl⟩
theorem L_77 : Dc code 77 (.iushr) 1 78 := ⟨at_77, rfl⟩
theorem L_78 : Dc code 78 (.iconst 3) 1 79 := ⟨at_78, rfl⟩
theorem L_79 : Dc code 79 (.iand) 1 80 := ⟨at_79, rfl⟩
theorem L_80 : Dc code 80 (.iadd) 1 81 := ⟨at_80, rfl⟩
theorem L_81 : Dc code 81 (.istore 11) 2 83 := ⟨at_81, rfl⟩
theorem L_83 : Dc code 83 (.iconst 1) 1 84 := ⟨at_83, rfl⟩
theorem L_84 : Dc code 84 (.istore 12) 2 86 := ⟨at_84, rfl⟩
theorem L_86 : Dc code 86 (.aload 4) 2 88 := ⟨at_86, rfl⟩
theorem L_88 : Dc code 88 (.iload 6) 2 90 := ⟨at_88, rfl⟩
theorem L_90 : Dc code 90 (.iload 7) 2 92 := ⟨at_90, rfl⟩
theorem L_92 : Dc code 92 (.invokevirtual 12) 3 95 := ⟨at_92, rfl⟩
theorem L_95 : Dc code 95 (.istore 13) 2 97 := ⟨at_95, rfl⟩
theorem L_97 : Dc code 97 (.iload 12) 2 99 := ⟨at_97, rfl⟩
theorem L_99 : Db code 99 (.ifCond .eq 21) (21) 102 120 := ⟨at_99, rfl, by decide, by decide⟩
theorem L_102 : Dc code 102 (.iload 13) 2 104 := ⟨at_102, rfl⟩
theorem L_104 : Dc code 104 (.aload 5) 2 106 := ⟨at_104, rfl⟩
theorem L_106 : Dc code 106 (.iload 6) 2 108 := ⟨at_106, rfl⟩
theorem L_108 : Dc code 108 (.iload 7) 2 110 := ⟨at_108, rfl⟩
theorem L_110 : Dc code 110 (.invokestatic 16) 3 113 := ⟨at_110, rfl⟩
theorem L_113 : Db code 113 (.if_icmp .ne 7) (7) 116 120 := ⟨at_113, rfl, by decide, by decide⟩
theorem L_116 : Dc code 116 (.iconst 1) 1 117 := ⟨at_116, rfl⟩
theorem L_117 : Db code 117 (.goto 4) (4) 120 121 := ⟨at_117, rfl, by decide, by decide⟩
theorem L_120 : Dc code 120 (.iconst 0) 1 121 := ⟨at_120, rfl⟩
theorem L_121 : Dc code 121 (.istore 12) 2 123 := ⟨at_121, rfl⟩
theorem L_123 : Dc code 123 (.aload 4) 2 125 := ⟨at_123, rfl⟩
theorem L_125 : Dc code 125 (.iload 8) 2 127 := ⟨at_125, rfl⟩
theorem L_127 : Dc code 127 (.iload 9) 2 129 := ⟨at_127, rfl⟩
theorem L_129 : Dc code 129 (.invokevirtual 12) 3 132 := ⟨at_129, rfl⟩
theorem L_132 : Dc code 132 (.istore 14) 2 134 := ⟨at_132, rfl⟩
theorem L_134 : Dc code 134 (.iload 12) 2 136 := ⟨at_134, rfl⟩
theorem L_136 : Db code 136 (.ifCond .eq 21) (21) 139 157 := ⟨at_136, rfl, by decide, by decide⟩
theorem L_139 : Dc code 139 (.iload 14) 2 141 := ⟨at_139, rfl⟩
theorem L_141 : Dc code 141 (.aload 5) 2 143 := ⟨at_141, rfl⟩
theorem L_143 : Dc code 143 (.iload 8) 2 145 := ⟨at_143, rfl⟩
theorem L_145 : Dc code 145 (.iload 9) 2 147 := ⟨at_145, rfl⟩
theorem L_147 : Dc code 147 (.invokestatic 16) 3 150 := ⟨at_147, rfl⟩
theorem L_150 : Db code 150 (.if_icmp .ne 7) (7) 153 157 := ⟨at_150, rfl, by decide, by decide⟩
theorem L_153 : Dc code 153 (.iconst 1) 1 154 := ⟨at_153, rfl⟩
theorem L_154 : Db code 154 (.goto 4) (4) 157 158 := ⟨at_154, rfl, by decide, by decide⟩
theorem L_157 : Dc code 157 (.iconst 0) 1 158 := ⟨at_157, rfl⟩
theorem L_158 : Dc code 158 (.istore 12) 2 160 := ⟨at_158, rfl⟩
theorem L_160 : Dc code 160 (.aload 4) 2 162 := ⟨at_160, rfl⟩
theorem L_162 : Dc code 162 (.iload 10) 2 164 := ⟨at_162, rfl⟩
theorem L_164 : Dc code 164 (.iload 11) 2 166 := ⟨at_164, rfl⟩
theorem L_166 : Dc code 166 (.invokevirtual 12) 3 169 := ⟨at_166, rfl⟩
theorem L_169 : Dc code 169 (.istore 15) 2 171 := ⟨at_169, rfl⟩
theorem L_171 : Dc code 171 (.iload 12) 2 173 := ⟨at_171, rfl⟩
theorem L_173 : Db code 173 (.ifCond .eq 21) (21) 176 194 := ⟨at_173, rfl, by decide, by decide⟩
theorem L_176 : Dc code 176 (.iload 15) 2 178 := ⟨at_176, rfl⟩
theorem L_178 : Dc code 178 (.aload 5) 2 180 := ⟨at_178, rfl⟩
theorem L_180 : Dc code 180 (.iload 10) 2 182 := ⟨at_180, rfl⟩
theorem L_182 : Dc code 182 (.iload 11) 2 184 := ⟨at_182, rfl⟩
theorem L_184 : Dc code 184 (.invokestatic 16) 3 187 := ⟨at_184, rfl⟩
theorem L_187 : Db code 187 (.if_icmp .ne 7) (7) 190 194 := ⟨at_187, rfl, by decide, by decide⟩
theorem L_190 : Dc code 190 (.iconst 1) 1 191 := ⟨at_190, rfl⟩
theorem L_191 : Db code 191 (.goto 4) (4) 194 195 := ⟨at_191, rfl, by decide, by decide⟩
theorem L_194 : Dc code 194 (.iconst 0) 1 195 := ⟨at_194, rfl⟩
theorem L_195 : Dc code 195 (.istore 12) 2 197 := ⟨at_195, rfl⟩
theorem L_197 : Dc code 197 (.iconst 5) 1 198 := ⟨at_197, rfl⟩
theorem L_198 : Dc code 198 (.newarray .int) 2 200 := ⟨at_198, rfl⟩
theorem L_200 : Dc code 200 (.astore 16) 2 202 := ⟨at_200, rfl⟩
theorem L_202 : Dc code 202 (.aload 16) 2 204 := ⟨at_202, rfl⟩
theorem L_204 : Dc code 204 (.iconst 1) 1 205 := ⟨at_204, rfl⟩
theorem L_205 : Dc code 205 (.aload 4) 2 207 := ⟨at_205, rfl⟩
theorem L_207 : Dc code 207 (.iconst 1) 1 208 := ⟨at_207, rfl⟩
theorem L_208 : Dc code 208 (.invokevirtual 22) 3 211 := ⟨at_208, rfl⟩
theorem L_211 : Dc code 211 (.iastore) 1 212 := ⟨at_211, rfl⟩
theorem L_212 : Dc code 212 (.aload 16) 2 214 := ⟨at_212, rfl⟩
theorem L_214 : Dc code 214 (.iconst 2) 1 215 := ⟨at_214, rfl⟩
theorem L_215 : Dc code 215 (.aload 4) 2 217 := ⟨at_215, rfl⟩
theorem L_217 : Dc code 217 (.iconst 2) 1 218 := ⟨at_217, rfl⟩
theorem L_218 : Dc code 218 (.invokevirtual 22) 3 221 := ⟨at_218, rfl⟩
theorem L_221 : Dc code 221 (.iastore) 1 222 := ⟨at_221, rfl⟩
theorem L_222 : Dc code 222 (.aload 16) 2 224 := ⟨at_222, rfl⟩
theorem L_224 : Dc code 224 (.iconst 3) 1 225 := ⟨at_224, rfl⟩
theorem L_225 : Dc code 225 (.aload 4) 2 227 := ⟨at_225, rfl⟩
theorem L_227 : Dc code 227 (.iconst 3) 1 228 := ⟨at_227, rfl⟩
theorem L_228 : Dc code 228 (.invokevirtual 22) 3 231 := ⟨at_228, rfl⟩
theorem L_231 : Dc code 231 (.iastore) 1 232 := ⟨at_231, rfl⟩
theorem L_232 : Dc code 232 (.aload 16) 2 234 := ⟨at_232, rfl⟩
theorem L_234 : Dc code 234 (.iconst 4) 1 235 := ⟨at_234, rfl⟩
theorem L_235 : Dc code 235 (.aload 4) 2 237 := ⟨at_235, rfl⟩
theorem L_237 : Dc code 237 (.iconst 4) 1 238 := ⟨at_237, rfl⟩
theorem L_238 : Dc code 238 (.invokevirtual 22) 3 241 := ⟨at_238, rfl⟩
theorem L_241 : Dc code 241 (.iastore) 1 242 := ⟨at_241, rfl⟩
theorem L_242 : Dc code 242 (.iload 12) 2 244 := ⟨at_242, rfl⟩
theorem L_244 : Db code 244 (.ifCond .eq 51) (51) 247 295 := ⟨at_244, rfl, by decide, by decide⟩
theorem L_247 : Dc code 247 (.aload 5) 2 249 := ⟨at_247, rfl⟩
theorem L_249 : Dc code 249 (.aload 16) 2 251 := ⟨at_249, rfl⟩
theorem L_251 : Dc code 251 (.iconst 1) 1 252 := ⟨at_251, rfl⟩
theorem L_252 : Dc code 252 (.invokestatic 26) 3 255 := ⟨at_252, rfl⟩
theorem L_255 : Db code 255 (.ifCond .eq 40) (40) 258 295 := ⟨at_255, rfl, by decide, by decide⟩
theorem L_258 : Dc code 258 (.aload 5) 2 260 := ⟨at_258, rfl⟩
theorem L_260 : Dc code 260 (.aload 16) 2 262 := ⟨at_260, rfl⟩
theorem L_262 : Dc code 262 (.iconst 2) 1 263 := ⟨at_262, rfl⟩
theorem L_263 : Dc code 263 (.invokestatic 26) 3 266 := ⟨at_263, rfl⟩
theorem L_266 : Db code 266 (.ifCond .eq 29) (29) 269 295 := ⟨at_266, rfl, by decide, by decide⟩
theorem L_269 : Dc code 269 (.aload 5) 2 271 := ⟨at_269, rfl⟩
theorem L_271 : Dc code 271 (.aload 16) 2 273 := ⟨at_271, rfl⟩
theorem L_273 : Dc code 273 (.iconst 3) 1 274 := ⟨at_273, rfl⟩
theorem L_274 : Dc code 274 (.invokestatic 26) 3 277 := ⟨at_274, rfl⟩
theorem L_277 : Db code 277 (.ifCond .eq 18) (18) 280 295 := ⟨at_277, rfl, by decide, by decide⟩
theorem L_280 : Dc code 280 (.aload 5) 2 282 := ⟨at_280, rfl⟩
theorem L_282 : Dc code 282 (.aload 16) 2 284 := ⟨at_282, rfl⟩
theorem L_284 : Dc code 284 (.iconst 4) 1 285 := ⟨at_284, rfl⟩
theorem L_285 : Dc code 285 (.invokestatic 26) 3 288 := ⟨at_285, rfl⟩
theorem L_288 : Db code 288 (.ifCond .eq 7) (7) 291 295 := ⟨at_288, rfl, by decide, by decide⟩
theorem L_291 : Dc code 291 (.iconst 1) 1 292 := ⟨at_291, rfl⟩
theorem L_292 : Db code 292 (.goto 4) (4) 295 296 := ⟨at_292, rfl, by decide, by decide⟩
theorem L_295 : Dc code 295 (.iconst 0) 1 296 := ⟨at_295, rfl⟩
theorem L_296 : Dc code 296 (.istore 12) 2 298 := ⟨at_296, rfl⟩
theorem L_298 : Dc code 298 (.iload 12) 2 300 := ⟨at_298, rfl⟩
theorem L_300 : Db code 300 (.ifCond .eq 43) (43) 303 343 := ⟨at_300, rfl, by decide, by decide⟩
theorem L_303 : Dc code 303 (.aload 5) 2 305 := ⟨at_303, rfl⟩
theorem L_305 : Dc code 305 (.aload 16) 2 307 := ⟨at_305, rfl⟩
theorem L_307 : Dc code 307 (.iconst 1) 1 308 := ⟨at_307, rfl⟩
theorem L_308 : Dc code 308 (.iconst 2) 1 309 := ⟨at_308, rfl⟩
theorem L_309 : Dc code 309 (.invokestatic 30) 3 312 := ⟨at_309, rfl⟩
theorem L_312 : Db code 312 (.ifCond .eq 31) (31) 315 343 := ⟨at_312, rfl, by decide, by decide⟩
theorem L_315 : Dc code 315 (.aload 5) 2 317 := ⟨at_315, rfl⟩
theorem L_317 : Dc code 317 (.aload 16) 2 319 := ⟨at_317, rfl⟩
theorem L_319 : Dc code 319 (.iconst 1) 1 320 := ⟨at_319, rfl⟩
theorem L_320 : Dc code 320 (.iconst 3) 1 321 := ⟨at_320, rfl⟩
theorem L_321 : Dc code 321 (.invokestatic 30) 3 324 := ⟨at_321, rfl⟩
theorem L_324 : Db code 324 (.ifCond .eq 19) (19) 327 343 := ⟨at_324, rfl, by decide, by decide⟩
theorem L_327 : Dc code 327 (.aload 5) 2 329 := ⟨at_327, rfl⟩
theorem L_329 : Dc code 329 (.aload 16) 2 331 := ⟨at_329, rfl⟩
theorem L_331 : Dc code 331 (.iconst 1) 1 332 := ⟨at_331, rfl⟩
theorem L_332 : Dc code 332 (.iconst 4) 1 333 := ⟨at_332, rfl⟩
theorem L_333 : Dc code 333 (.invokestatic 30) 3 336 := ⟨at_333, rfl⟩
theorem L_336 : Db code 336 (.ifCond .eq 7) (7) 339 343 := ⟨at_336, rfl, by decide, by decide⟩
theorem L_339 : Dc code 339 (.iconst 1) 1 340 := ⟨at_339, rfl⟩
theorem L_340 : Db code 340 (.goto 4) (4) 343 344 := ⟨at_340, rfl, by decide, by decide⟩
theorem L_343 : Dc code 343 (.iconst 0) 1 344 := ⟨at_343, rfl⟩
theorem L_344 : Dc code 344 (.istore 12) 2 346 := ⟨at_344, rfl⟩
theorem L_346 : Dc code 346 (.iload 12) 2 348 := ⟨at_346, rfl⟩
theorem L_348 : Db code 348 (.ifCond .eq 43) (43) 351 391 := ⟨at_348, rfl, by decide, by decide⟩
theorem L_351 : Dc code 351 (.aload 5) 2 353 := ⟨at_351, rfl⟩
theorem L_353 : Dc code 353 (.aload 16) 2 355 := ⟨at_353, rfl⟩
theorem L_355 : Dc code 355 (.iconst 2) 1 356 := ⟨at_355, rfl⟩
theorem L_356 : Dc code 356 (.iconst 3) 1 357 := ⟨at_356, rfl⟩
theorem L_357 : Dc code 357 (.invokestatic 30) 3 360 := ⟨at_357, rfl⟩
theorem L_360 : Db code 360 (.ifCond .eq 31) (31) 363 391 := ⟨at_360, rfl, by decide, by decide⟩
theorem L_363 : Dc code 363 (.aload 5) 2 365 := ⟨at_363, rfl⟩
theorem L_365 : Dc code 365 (.aload 16) 2 367 := ⟨at_365, rfl⟩
theorem L_367 : Dc code 367 (.iconst 2) 1 368 := ⟨at_367, rfl⟩
theorem L_368 : Dc code 368 (.iconst 4) 1 369 := ⟨at_368, rfl⟩
theorem L_369 : Dc code 369 (.invokestatic 30) 3 372 := ⟨at_369, rfl⟩
theorem L_372 : Db code 372 (.ifCond .eq 19) (19) 375 391 := ⟨at_372, rfl, by decide, by decide⟩
theorem L_375 : Dc code 375 (.aload 5) 2 377 := ⟨at_375, rfl⟩
theorem L_377 : Dc code 377 (.aload 16) 2 379 := ⟨at_377, rfl⟩
theorem L_379 : Dc code 379 (.iconst 3) 1 380 := ⟨at_379, rfl⟩
theorem L_380 : Dc code 380 (.iconst 4) 1 381 := ⟨at_380, rfl⟩
theorem L_381 : Dc code 381 (.invokestatic 30) 3 384 := ⟨at_381, rfl⟩
theorem L_384 : Db code 384 (.ifCond .eq 7) (7) 387 391 := ⟨at_384, rfl, by decide, by decide⟩
theorem L_387 : Dc code 387 (.iconst 1) 1 388 := ⟨at_387, rfl⟩
theorem L_388 : Db code 388 (.goto 4) (4) 391 392 := ⟨at_388, rfl, by decide, by decide⟩
theorem L_391 : Dc code 391 (.iconst 0) 1 392 := ⟨at_391, rfl⟩
theorem L_392 : Dc code 392 (.istore 12) 2 394 := ⟨at_392, rfl⟩
theorem L_394 : Dc code 394 (.iload 12) 2 396 := ⟨at_394, rfl⟩
theorem L_396 : Db code 396 (.ifCond .ne 5) (5) 399 401 := ⟨at_396, rfl, by decide, by decide⟩
theorem L_399 : Dc code 399 (.iconst 0) 1 400 := ⟨at_399, rfl⟩
theorem L_400 : Dc code 400 (.ireturn) 1 401 := ⟨at_400, rfl⟩
theorem L_401 : Dc code 401 (.iconst 1) 1 402 := ⟨at_401, rfl⟩
theorem L_402 : Dc code 402 (.iload_n 3) 1 403 := ⟨at_402, rfl⟩
theorem L_403 : Dc code 403 (.iconst 3) 1 404 := ⟨at_403, rfl⟩
theorem L_404 : Dc code 404 (.iand) 1 405 := ⟨at_404, rfl⟩
theorem L_405 : Dc code 405 (.iadd) 1 406 := ⟨at_405, rfl⟩
theorem L_406 : Dc code 406 (.istore 17) 2 408 := ⟨at_406, rfl⟩
theorem L_408 : Dc code 408 (.aload 4) 2 410 := ⟨at_408, rfl⟩
theorem L_410 : Dc code 410 (.iload 17) 2 412 := ⟨at_410, rfl⟩
theorem L_412 : Dc code 412 (.invokevirtual 22) 3 415 := ⟨at_412, rfl⟩
theorem L_415 : Dc code 415 (.istore 18) 2 417 := ⟨at_415, rfl⟩
theorem L_417 : Dc code 417 (.iload 12) 2 419 := ⟨at_417, rfl⟩
theorem L_419 : Db code 419 (.ifCond .eq 17) (17) 422 436 := ⟨at_419, rfl, by decide, by decide⟩
theorem L_422 : Dc code 422 (.iload 18) 2 424 := ⟨at_422, rfl⟩
theorem L_424 : Dc code 424 (.aload 16) 2 426 := ⟨at_424, rfl⟩
theorem L_426 : Dc code 426 (.iload 17) 2 428 := ⟨at_426, rfl⟩
theorem L_428 : Dc code 428 (.iaload) 1 429 := ⟨at_428, rfl⟩
theorem L_429 : Db code 429 (.if_icmp .ne 7) (7) 432 436 := ⟨at_429, rfl, by decide, by decide⟩
theorem L_432 : Dc code 432 (.iconst 1) 1 433 := ⟨at_432, rfl⟩
theorem L_433 : Db code 433 (.goto 4) (4) 436 437 := ⟨at_433, rfl, by decide, by decide⟩
theorem L_436 : Dc code 436 (.iconst 0) 1 437 := ⟨at_436, rfl⟩
theorem L_437 : Dc code 437 (.istore 12) 2 439 := ⟨at_437, rfl⟩
theorem L_439 : Dc code 439 (.aload 4) 2 441 := ⟨at_439, rfl⟩
theorem L_441 : Dc code 441 (.aload 16) 2 443 := ⟨at_441, rfl⟩
theorem L_443 : Dc code 443 (.iload 17) 2 445 := ⟨at_443, rfl⟩
theorem L_445 : Dc code 445 (.iaload) 1 446 := ⟨at_445, rfl⟩
theorem L_446 : Dc code 446 (.invokevirtual 22) 3 449 := ⟨at_446, rfl⟩
theorem L_449 : Dc code 449 (.istore 19) 2 451 := ⟨at_449, rfl⟩
theorem L_451 : Dc code 451 (.iload 12) 2 453 := ⟨at_451, rfl⟩
theorem L_453 : Db code 453 (.ifCond .eq 17) (17) 456 470 := ⟨at_453, rfl, by decide, by decide⟩
theorem L_456 : Dc code 456 (.iload 19) 2 458 := ⟨at_456, rfl⟩
theorem L_458 : Dc code 458 (.aload 16) 2 460 := ⟨at_458, rfl⟩
theorem L_460 : Dc code 460 (.iload 17) 2 462 := ⟨at_460, rfl⟩
theorem L_462 : Dc code 462 (.iaload) 1 463 := ⟨at_462, rfl⟩
theorem L_463 : Db code 463 (.if_icmp .ne 7) (7) 466 470 := ⟨at_463, rfl, by decide, by decide⟩
theorem L_466 : Dc code 466 (.iconst 1) 1 467 := ⟨at_466, rfl⟩
theorem L_467 : Db code 467 (.goto 4) (4) 470 471 := ⟨at_467, rfl, by decide, by decide⟩
theorem L_470 : Dc code 470 (.iconst 0) 1 471 := ⟨at_470, rfl⟩
theorem L_471 : Dc code 471 (.istore 12) 2 473 := ⟨at_471, rfl⟩
theorem L_473 : Dc code 473 (.iload 12) 2 475 := ⟨at_473, rfl⟩
theorem L_475 : Dc code 475 (.ireturn) 1 476 := ⟨at_475, rfl⟩
theorem ef_L (m : MethodId) (i0 : Int32) (i1 : Int32) (i2 : Int32) (i3 : Int32) : entryFrame m #[(.int i0), (.int i1), (.int i2), (.int i3)] maxLocals = mkF m 0 #[.val (.int i0), .val (.int i1), .val (.int i2), .val (.int i3), .unset, .unset, .unset, .unset, .unset, .unset, .unset, .unset, .unset, .unset, .unset, .unset, .unset, .unset, .unset, .unset] [] := by first | (simp [entryFrame, mkF, argsToLocals, Value.category, maxLocals]; done) | rfl
set_option maxRecDepth 65536 in
set_option maxHeartbeats 40000000 in
theorem con_L (l : Launch) (Z : State) (a0 : Array Value) (hw : Tb tables_1 a0 Z) (i0 : Int32) (i1 : Int32) (i2 : Int32) (i3 : Int32) (h0 : Heap) (n0 : Nat) (Z0 : n0 ≤ h0.size)  :
    Con l Z x code maxLocals ret room_1 #[(.int i0), (.int i1), (.int i2), (.int i3)] h0 n0 (fun v _ => v = some (.int 1)) := by
  refine Con.of (plainFor_of_name (by decide +kernel)) Z0 ?_
  intro K hl hZ hn cx T0 X0
  subst hl hZ hn
  refine Run.cast (ef_L K.m i0 i1 i2 i3) ?_
  refine r_new X0 cx L_0 (hw.get 0 rfl) (hw.get 1 rfl) (hw.get 2 rfl) (by decide) (by decide) (fun Tz1 hz1 o eaz1 g_o Xz1 Exz1 E_o Dz1 => ?_)
  have F_parent_o := Dz1 (Or.inr (hw.get 11 rfl)) (ty := .array .int) (by decide)
  have F_size_o := Dz1 (Or.inr (hw.get 13 rfl)) (ty := .array .int) (by decide)
  refine r_dup Xz1 cx L_3 rfl ?_
  refine r_iconst (4) Xz1 cx L_4 rfl ?_
  refine r_special [(.int (4 : Int32))] [(.ref o)] Xz1 cx L_5 rfl (hw.get 3 rfl) (hw.get 4 rfl) (hw.get 2 rfl) (hw.get 5 rfl) (by decide) (con_P71m1 K.l K.Z _ hw o hz1 K.n0 Xz1.ge E_o F_parent_o F_size_o g_o) (lenOf pd_1 rfl) rfl rfl (by decide) (leb rfl) (by decide) (by decide) (fun Tz2 hz2 vz2 Xz2 qz2 => ?_) (fun _ _ q => q.1)
  obtain ⟨zz2, rfl, ap, az, B⟩ := qz2
  obtain ⟨E_o, F_parent, F_size, A_ap, A_az, ne_o_ap, ne_o_az, ne_ap_az, g_o, g_ap, g_az⟩ := B
  refine r_astore #[.val (.int i0), .val (.int i1), .val (.int i2), .val (.int i3), .val (.ref o), .unset, .unset, .unset, .unset, .unset, .unset, .unset, .unset, .unset, .unset, .unset, .unset, .unset, .unset, .unset] Xz2 cx L_8 rfl ?_
  refine r_iconst (5) Xz2 cx L_10 rfl ?_
  refine r_newarray Xz2 cx L_11 (hw.get 9 rfl) (5) 5 rfl (Nat.le_refl _) (by decide) (by decide) (by decide) (fun Tz3 hz3 rr eaz3 g_rr Xz3 Exz3 Az3 => ?_)
  have ne_rr_o : rr ≠ o := ne_new eaz3 E_o.lt
  have ne_rr_ap : rr ≠ ap := ne_new eaz3 A_ap.lt
  have ne_rr_az : rr ≠ az := ne_new eaz3 A_az.lt
  replace F_parent := F_parent.ext Exz3
  replace F_size := F_size.ext Exz3
  replace E_o := E_o.ext Exz3
  replace A_ap := A_ap.ext Exz3
  replace A_az := A_az.ext Exz3
  have A_rr : AI .int K.Z hz3 rr [0, 0, 0, 0, 0] := AI.new Az3
  refine r_dup Xz3 cx L_13 rfl ?_
  refine r_iconst (0) Xz3 cx L_14 rfl ?_
  refine r_iconst (0) Xz3 cx L_15 rfl ?_
  refine r_iastore Xz3 cx L_16 A_rr (0) rfl (ltb rfl) g_rr (fun Tz4 hz4 Xz4 Wz4 Nz4 => ?_)
  replace F_parent := F_parent.other Wz4 (Or.inl ne_rr_o.symm)
  replace F_size := F_size.other Wz4 (Or.inl ne_rr_o.symm)
  replace E_o := E_o.wr Wz4
  replace A_ap := A_ap.other Wz4 ne_rr_ap.symm
  replace A_az := A_az.other Wz4 ne_rr_az.symm
  have A_rr : AI .int K.Z hz4 rr [(0 : Int32), 0, 0, 0, 0] := Nz4
  refine r_dup Xz4 cx L_17 rfl ?_
  refine r_iconst (1) Xz4 cx L_18 rfl ?_
  refine r_iconst (1) Xz4 cx L_19 rfl ?_
  refine r_iastore Xz4 cx L_20 A_rr (1) rfl (ltb rfl) g_rr (fun Tz5 hz5 Xz5 Wz5 Nz5 => ?_)
  replace F_parent := F_parent.other Wz5 (Or.inl ne_rr_o.symm)
  replace F_size := F_size.other Wz5 (Or.inl ne_rr_o.symm)
  replace E_o := E_o.wr Wz5
  replace A_ap := A_ap.other Wz5 ne_rr_ap.symm
  replace A_az := A_az.other Wz5 ne_rr_az.symm
  have A_rr : AI .int K.Z hz5 rr [(0 : Int32), (1 : Int32), 0, 0, 0] := Nz5
  refine r_dup Xz5 cx L_21 rfl ?_
  refine r_iconst (2) Xz5 cx L_22 rfl ?_
  refine r_iconst (2) Xz5 cx L_23 rfl ?_
  refine r_iastore Xz5 cx L_24 A_rr (2) rfl (ltb rfl) g_rr (fun Tz6 hz6 Xz6 Wz6 Nz6 => ?_)
  replace F_parent := F_parent.other Wz6 (Or.inl ne_rr_o.symm)
  replace F_size := F_size.other Wz6 (Or.inl ne_rr_o.symm)
  replace E_o := E_o.wr Wz6
  replace A_ap := A_ap.other Wz6 ne_rr_ap.symm
  replace A_az := A_az.other Wz6 ne_rr_az.symm
  have A_rr : AI .int K.Z hz6 rr [(0 : Int32), (1 : Int32), (2 : Int32), 0, 0] := Nz6
  refine r_dup Xz6 cx L_25 rfl ?_
  refine r_iconst (3) Xz6 cx L_26 rfl ?_
  refine r_iconst (3) Xz6 cx L_27 rfl ?_
  refine r_iastore Xz6 cx L_28 A_rr (3) rfl (ltb rfl) g_rr (fun Tz7 hz7 Xz7 Wz7 Nz7 => ?_)
  replace F_parent := F_parent.other Wz7 (Or.inl ne_rr_o.symm)
  replace F_size := F_size.other Wz7 (Or.inl ne_rr_o.symm)
  replace E_o := E_o.wr Wz7
  replace A_ap := A_ap.other Wz7 ne_rr_ap.symm
  replace A_az := A_az.other Wz7 ne_rr_az.symm
  have A_rr : AI .int K.Z hz7 rr [(0 : Int32), (1 : Int32), (2 : Int32), (3 : Int32), 0] := Nz7
  refine r_dup Xz7 cx L_29 rfl ?_
  refine r_iconst (4) Xz7 cx L_30 rfl ?_
  refine r_iconst (4) Xz7 cx L_31 rfl ?_
  refine r_iastore Xz7 cx L_32 A_rr (4) rfl (ltb rfl) g_rr (fun Tz8 hz8 Xz8 Wz8 Nz8 => ?_)
  replace F_parent := F_parent.other Wz8 (Or.inl ne_rr_o.symm)
  replace F_size := F_size.other Wz8 (Or.inl ne_rr_o.symm)
  replace E_o := E_o.wr Wz8
  replace A_ap := A_ap.other Wz8 ne_rr_ap.symm
  replace A_az := A_az.other Wz8 ne_rr_az.symm
  have A_rr : AI .int K.Z hz8 rr [(0 : Int32), (1 : Int32), (2 : Int32), (3 : Int32), (4 : Int32)] := Nz8
  refine r_astore #[.val (.int i0), .val (.int i1), .val (.int i2), .val (.int i3), .val (.ref o), .val (.ref rr), .unset, .unset, .unset, .unset, .unset, .unset, .unset, .unset, .unset, .unset, .unset, .unset, .unset, .unset] Xz8 cx L_33 rfl ?_
  have B : DS K.Z K.n0 hz8 o ap az [0, 1, 2, 3, 4] [0, 1, 1, 1, 1] := ⟨E_o, F_parent, F_size, A_ap, A_az, ne_o_ap, ne_o_az, ne_ap_az, g_o, g_ap, g_az⟩
  replace A_rr : AI .int K.Z hz8 rr (own_i [0, 1, 2, 3, 4]) := A_rr
  clear E_o F_parent F_size A_ap A_az
  refine r_iconst (1) Xz8 cx L_35 rfl ?_
  refine r_iloadN Xz8 cx L_36 rfl ?_
  refine r_iconst (3) Xz8 cx L_37 rfl ?_
  refine r_iand Xz8 cx L_38 ?_
  refine r_iadd Xz8 cx L_39 ?_
  refine r_istore (fun zz => #[.val (.int i0), .val (.int i1), .val (.int i2), .val (.int i3), .val (.ref o), .val (.ref rr), .val (.int zz), .unset, .unset, .unset, .unset, .unset, .unset, .unset, .unset, .unset, .unset, .unset, .unset, .unset]) Xz8 cx L_40 (fun _ => rfl) (fun na0 e_na0 => ?_)
  refine r_iconst (1) Xz8 cx L_42 rfl ?_
  refine r_iloadN Xz8 cx L_43 rfl ?_
  refine r_iconst (2) Xz8 cx L_44 rfl ?_
  refine r_iushr Xz8 cx L_45 ?_
  refine r_iconst (3) Xz8 cx L_46 rfl ?_
  refine r_iand Xz8 cx L_47 ?_
  refine r_iadd Xz8 cx L_48 ?_
  refine r_istore (fun zz => #[.val (.int i0), .val (.int i1), .val (.int i2), .val (.int i3), .val (.ref o), .val (.ref rr), .val (.int na0), .val (.int zz), .unset, .unset, .unset, .unset, .unset, .unset, .unset, .unset, .unset, .unset, .unset, .unset]) Xz8 cx L_49 (fun _ => rfl) (fun nb0 e_nb0 => ?_)
  refine r_iconst (1) Xz8 cx L_51 rfl ?_
  refine r_iloadN Xz8 cx L_52 rfl ?_
  refine r_iconst (3) Xz8 cx L_53 rfl ?_
  refine r_iand Xz8 cx L_54 ?_
  refine r_iadd Xz8 cx L_55 ?_
  refine r_istore (fun zz => #[.val (.int i0), .val (.int i1), .val (.int i2), .val (.int i3), .val (.ref o), .val (.ref rr), .val (.int na0), .val (.int nb0), .val (.int zz), .unset, .unset, .unset, .unset, .unset, .unset, .unset, .unset, .unset, .unset, .unset]) Xz8 cx L_56 (fun _ => rfl) (fun na1 e_na1 => ?_)
  refine r_iconst (1) Xz8 cx L_58 rfl ?_
  refine r_iloadN Xz8 cx L_59 rfl ?_
  refine r_iconst (2) Xz8 cx L_60 rfl ?_
  refine r_iushr Xz8 cx L_61 ?_
  refine r_iconst (3) Xz8 cx L_62 rfl ?_
  refine r_iand Xz8 cx L_63 ?_
  refine r_iadd Xz8 cx L_64 ?_
  refine r_istore (fun zz => #[.val (.int i0), .val (.int i1), .val (.int i2), .val (.int i3), .val (.ref o), .val (.ref rr), .val (.int na0), .val (.int nb0), .val (.int na1), .val (.int zz), .unset, .unset, .unset, .unset, .unset, .unset, .unset, .unset, .unset, .unset]) Xz8 cx L_65 (fun _ => rfl) (fun nb1 e_nb1 => ?_)
  refine r_iconst (1) Xz8 cx L_67 rfl ?_
  refine r_iloadN Xz8 cx L_68 rfl ?_
  refine r_iconst (3) Xz8 cx L_69 rfl ?_
  refine r_iand Xz8 cx L_70 ?_
  refine r_iadd Xz8 cx L_71 ?_
  refine r_istore (fun zz => #[.val (.int i0), .val (.int i1), .val (.int i2), .val (.int i3), .val (.ref o), .val (.ref rr), .val (.int na0), .val (.int nb0), .val (.int na1), .val (.int nb1), .val (.int zz), .unset, .unset, .unset, .unset, .unset, .unset, .unset, .unset, .unset]) Xz8 cx L_72 (fun _ => rfl) (fun na2 e_na2 => ?_)
  refine r_iconst (1) Xz8 cx L_74 rfl ?_
  refine r_iloadN Xz8 cx L_75 rfl ?_
  refine r_iconst (2) Xz8 cx L_76 rfl ?_
  refine r_iushr Xz8 cx L_77 ?_
  refine r_iconst (3) Xz8 cx L_78 rfl ?_
  refine r_iand Xz8 cx L_79 ?_
  refine r_iadd Xz8 cx L_80 ?_
  refine r_istore (fun zz => #[.val (.int i0), .val (.int i1), .val (.int i2), .val (.int i3), .val (.ref o), .val (.ref rr), .val (.int na0), .val (.int nb0), .val (.int na1), .val (.int nb1), .val (.int na2), .val (.int zz), .unset, .unset, .unset, .unset, .unset, .unset, .unset, .unset]) Xz8 cx L_81 (fun _ => rfl) (fun nb2 e_nb2 => ?_)
  obtain ⟨a0, ha0, ha0', qa⟩ := own_14 i0
  obtain rfl : na0 = Int32.ofNat a0 := e_na0.trans qa
  obtain ⟨b0, hb0, hb0', qb⟩ := own_14 (XT.ushr i0 2)
  obtain rfl : nb0 = Int32.ofNat b0 := e_nb0.trans qb
  clear qa qb
  obtain ⟨a1, ha1, ha1', qa⟩ := own_14 i1
  obtain rfl : na1 = Int32.ofNat a1 := e_na1.trans qa
  obtain ⟨b1, hb1, hb1', qb⟩ := own_14 (XT.ushr i1 2)
  obtain rfl : nb1 = Int32.ofNat b1 := e_nb1.trans qb
  clear qa qb
  obtain ⟨a2, ha2, ha2', qa⟩ := own_14 i2
  obtain rfl : na2 = Int32.ofNat a2 := e_na2.trans qa
  obtain ⟨b2, hb2, hb2', qb⟩ := own_14 (XT.ushr i2 2)
  obtain rfl : nb2 = Int32.ofNat b2 := e_nb2.trans qb
  clear qa qb
  have okp0 : own_ok [0, 1, 2, 3, 4] = true := by decide
  have oks0 : own_ok [0, 1, 1, 1, 1] = true := by decide
  have okr0 : own_ok [0, 1, 2, 3, 4] = true := by decide
  have t0 := List.all_eq_true.mp (List.all_eq_true.mp own_all a0 (own_in4 ha0 ha0')) b0 (own_in4 hb0 hb0')
  simp only [own_s, Bool.and_eq_true, beq_iff_eq] at t0
  obtain ⟨⟨⟨⟨hu0, hf0⟩, oks1⟩, okr1⟩, n0⟩ := t0
  have okp1 := own_uok (ss := [0, 1, 1, 1, 1]) (a := a0) (b := b0) okp0 (by omega) (by omega)
  obtain ⟨ps1, eps1⟩ : ∃ z, z = (own_union [0, 1, 2, 3, 4] [0, 1, 1, 1, 1] a0 b0).1 := ⟨_, rfl⟩
  obtain ⟨ss1, ess1⟩ : ∃ z, z = (own_union [0, 1, 2, 3, 4] [0, 1, 1, 1, 1] a0 b0).2.1 := ⟨_, rfl⟩
  obtain ⟨rs1, ers1⟩ : ∃ z, z = (own_model [0, 1, 2, 3, 4] a0 b0).1 := ⟨_, rfl⟩
  rw [← ess1] at oks1 n0
  rw [← ers1] at okr1 n0
  rw [← eps1] at okp1 n0
  have t1 := List.all_eq_true.mp (List.all_eq_true.mp n0 a1 (own_in4 ha1 ha1')) b1 (own_in4 hb1 hb1')
  simp only [own_s, Bool.and_eq_true, beq_iff_eq] at t1
  obtain ⟨⟨⟨⟨hu1, hf1⟩, oks2⟩, okr2⟩, n1⟩ := t1
  have okp2 := own_uok (ss := ss1) (a := a1) (b := b1) okp1 (by omega) (by omega)
  obtain ⟨ps2, eps2⟩ : ∃ z, z = (own_union ps1 ss1 a1 b1).1 := ⟨_, rfl⟩
  obtain ⟨ss2, ess2⟩ : ∃ z, z = (own_union ps1 ss1 a1 b1).2.1 := ⟨_, rfl⟩
  obtain ⟨rs2, ers2⟩ : ∃ z, z = (own_model rs1 a1 b1).1 := ⟨_, rfl⟩
  rw [← ess2] at oks2 n1
  rw [← ers2] at okr2 n1
  rw [← eps2] at okp2 n1
  have t2 := List.all_eq_true.mp (List.all_eq_true.mp n1 a2 (own_in4 ha2 ha2')) b2 (own_in4 hb2 hb2')
  simp only [own_s, Bool.and_eq_true, beq_iff_eq] at t2
  obtain ⟨⟨⟨⟨hu2, hf2⟩, oks3⟩, okr3⟩, n2⟩ := t2
  have okp3 := own_uok (ss := ss2) (a := a2) (b := b2) okp2 (by omega) (by omega)
  obtain ⟨ps3, eps3⟩ : ∃ z, z = (own_union ps2 ss2 a2 b2).1 := ⟨_, rfl⟩
  obtain ⟨ss3, ess3⟩ : ∃ z, z = (own_union ps2 ss2 a2 b2).2.1 := ⟨_, rfl⟩
  obtain ⟨rs3, ers3⟩ : ∃ z, z = (own_model rs2 a2 b2).1 := ⟨_, rfl⟩
  rw [← ess3] at oks3
  rw [← ers3] at okr3 n2
  rw [← eps3] at okp3 n2
  unfold own_c3 at n2
  simp only [Bool.and_eq_true] at n2
  obtain ⟨⟨⟨⟨⟨⟨⟨⟨⟨⟨⟨⟨⟨⟨w1, w2⟩, w3⟩, w4⟩, me1⟩, me2⟩, me3⟩, me4⟩, pr12⟩, pr13⟩, pr14⟩, pr23⟩, pr24⟩, pr34⟩, hx⟩ := n2
  obtain ⟨q1, r1, hq1⟩ : ∃ q r, own_root 9 ps3 1 = (q, r, true) := ⟨_, _, by rw [← w1]⟩
  have oq1 := own_rok 9 ps3 1 okp3 (by decide)
  rw [hq1] at oq1
  obtain ⟨oq1, lr1⟩ := oq1
  simp only at oq1 lr1
  simp only [hq1] at w2 w3 w4 me1 me2 me3 me4 pr12 pr13 pr14 pr23 pr24 pr34 hx
  obtain ⟨q2, r2, hq2⟩ : ∃ q r, own_root 9 q1 2 = (q, r, true) := ⟨_, _, by rw [← w2]⟩
  have oq2 := own_rok 9 q1 2 oq1 (by decide)
  rw [hq2] at oq2
  obtain ⟨oq2, lr2⟩ := oq2
  simp only at oq2 lr2
  simp only [hq2] at w3 w4 me1 me2 me3 me4 pr12 pr13 pr14 pr23 pr24 pr34 hx
  obtain ⟨q3, r3, hq3⟩ : ∃ q r, own_root 9 q2 3 = (q, r, true) := ⟨_, _, by rw [← w3]⟩
  have oq3 := own_rok 9 q2 3 oq2 (by decide)
  rw [hq3] at oq3
  obtain ⟨oq3, lr3⟩ := oq3
  simp only at oq3 lr3
  simp only [hq3] at w4 me1 me2 me3 me4 pr12 pr13 pr14 pr23 pr24 pr34 hx
  obtain ⟨q4, r4, hq4⟩ : ∃ q r, own_root 9 q3 4 = (q, r, true) := ⟨_, _, by rw [← w4]⟩
  have oq4 := own_rok 9 q3 4 oq3 (by decide)
  rw [hq4] at oq4
  obtain ⟨oq4, lr4⟩ := oq4
  simp only at oq4 lr4
  simp only [hq4] at w4 me1 me2 me3 me4 pr12 pr13 pr14 pr23 pr24 pr34 hx
  refine r_iconst (1) Xz8 cx L_83 rfl ?_
  refine r_istore (fun zz => #[.val (.int i0), .val (.int i1), .val (.int i2), .val (.int i3), .val (.ref o), .val (.ref rr), .val (.int (Int32.ofNat a0)), .val (.int (Int32.ofNat b0)), .val (.int (Int32.ofNat a1)), .val (.int (Int32.ofNat b1)), .val (.int (Int32.ofNat a2)), .val (.int (Int32.ofNat b2)), .val (.int zz), .unset, .unset, .unset, .unset, .unset, .unset, .unset]) Xz8 cx L_84 (fun _ => rfl) (fun iz9 e_iz9 => ?_)
  subst e_iz9
  refine r_aload Xz8 cx L_86 rfl ?_
  refine r_iload Xz8 cx L_88 rfl ?_
  refine r_iload Xz8 cx L_90 rfl ?_
  refine r_virtual [(.int (Int32.ofNat a0)), (.int (Int32.ofNat b0))] [] Xz8 cx L_92 B.1 (hw.get 14 rfl) (hw.get 15 rfl) (hw.get 17 rfl) (hw.get 16 rfl) (hw.get 2 rfl) (hw.get 18 rfl) (by decide) (con_P71m2 K.l K.Z _ hw o (Int32.ofNat a0) (Int32.ofNat b0) hz8 K.n0 Xz8.ge ap az [0, 1, 2, 3, 4] [0, 1, 1, 1, 1] a0 b0 B okp0 oks0 (by omega) (by omega) rfl rfl hu0) (lenOf pd_2 rfl) rfl rfl (by decide) (leb rfl) (by decide) (by decide) (fun Tz10 hz10 vz10 Xz10 qz10 => ?_) (fun _ _ q => q.1)
  obtain ⟨zz10, rfl, B, Ku⟩ := qz10
  replace A_rr := A_rr.keep Ku (ninS ne_rr_ap (ninS ne_rr_az nin0))
  rw [← eps1, ← ess1] at B
  refine r_istore (fun zz => #[.val (.int i0), .val (.int i1), .val (.int i2), .val (.int i3), .val (.ref o), .val (.ref rr), .val (.int (Int32.ofNat a0)), .val (.int (Int32.ofNat b0)), .val (.int (Int32.ofNat a1)), .val (.int (Int32.ofNat b1)), .val (.int (Int32.ofNat a2)), .val (.int (Int32.ofNat b2)), .val (.int (1 : Int32)), .val (.int zz), .unset, .unset, .unset, .unset, .unset, .unset]) Xz10 cx L_95 (fun _ => rfl) (fun u0 e_u0 => ?_)
  refine r_iload Xz10 cx L_97 rfl ?_
  refine r_ifeq Xz10 cx L_99 (fun c => absurd c (by decide)) (fun _ => ?_)
  refine r_iload Xz10 cx L_102 rfl ?_
  refine r_aload Xz10 cx L_104 rfl ?_
  refine r_iload Xz10 cx L_106 rfl ?_
  refine r_iload Xz10 cx L_108 rfl ?_
  refine r_static [(.ref rr), (.int (Int32.ofNat a0)), (.int (Int32.ofNat b0))] [(.int u0)] Xz10 cx L_110 (hw.get 24 rfl) (hw.get 25 rfl) (hw.get 26 rfl) (hw.get 27 rfl) (by decide) (con_H2 K.l K.Z _ hw rr (Int32.ofNat a0) (Int32.ofNat b0) hz10 K.n0 Xz10.ge [0, 1, 2, 3, 4] a0 b0 A_rr okr0 (by omega) (by omega) rfl rfl g_rr) (lenOf pd_3 rfl) rfl rfl (by decide) (leb rfl) (by decide) (by decide) (fun Tz11 hz11 vz11 Xz11 qz11 => ?_) (fun _ _ q => q.1)
  obtain ⟨zz11, rfl, A_rr, Km⟩ := qz11
  obtain ⟨E_o, F_parent, F_size, A_ap, A_az, ne_o_ap, ne_o_az, ne_ap_az, g_o, g_ap, g_az⟩ := B
  replace F_parent := F_parent.keep Km (ninS ne_rr_o.symm nin0)
  replace F_size := F_size.keep Km (ninS ne_rr_o.symm nin0)
  replace E_o := E_o.keep Km
  replace A_ap := A_ap.keep Km (ninS ne_rr_ap.symm nin0)
  replace A_az := A_az.keep Km (ninS ne_rr_az.symm nin0)
  have B : DS K.Z K.n0 hz11 o ap az ps1 ss1 := ⟨E_o, F_parent, F_size, A_ap, A_az, ne_o_ap, ne_o_az, ne_ap_az, g_o, g_ap, g_az⟩
  clear E_o F_parent F_size A_ap A_az
  rw [← ers1] at A_rr
  refine r_icmpne Xz11 cx L_113 (fun c113 => ?_) (fun c113 => ?_)
  · exact absurd (by rw [e_u0, hf0]) c113
  · refine r_iconst (1) Xz11 cx L_116 rfl ?_
    refine r_goto Xz11 cx L_117 ?_
    refine r_istore (fun zz => #[.val (.int i0), .val (.int i1), .val (.int i2), .val (.int i3), .val (.ref o), .val (.ref rr), .val (.int (Int32.ofNat a0)), .val (.int (Int32.ofNat b0)), .val (.int (Int32.ofNat a1)), .val (.int (Int32.ofNat b1)), .val (.int (Int32.ofNat a2)), .val (.int (Int32.ofNat b2)), .val (.int zz), .val (.int u0), .unset, .unset, .unset, .unset, .unset, .unset]) Xz11 cx L_121 (fun _ => rfl) (fun iz12 e_iz12 => ?_)
    subst e_iz12
    refine r_aload Xz11 cx L_123 rfl ?_
    refine r_iload Xz11 cx L_125 rfl ?_
    refine r_iload Xz11 cx L_127 rfl ?_
    refine r_virtual [(.int (Int32.ofNat a1)), (.int (Int32.ofNat b1))] [] Xz11 cx L_129 B.1 (hw.get 14 rfl) (hw.get 15 rfl) (hw.get 17 rfl) (hw.get 16 rfl) (hw.get 2 rfl) (hw.get 18 rfl) (by decide) (con_P71m2 K.l K.Z _ hw o (Int32.ofNat a1) (Int32.ofNat b1) hz11 K.n0 Xz11.ge ap az ps1 ss1 a1 b1 B okp1 oks1 (by omega) (by omega) rfl rfl hu1) (lenOf pd_2 rfl) rfl rfl (by decide) (leb rfl) (by decide) (by decide) (fun Tz13 hz13 vz13 Xz13 qz13 => ?_) (fun _ _ q => q.1)
    obtain ⟨zz13, rfl, B, Ku⟩ := qz13
    replace A_rr := A_rr.keep Ku (ninS ne_rr_ap (ninS ne_rr_az nin0))
    rw [← eps2, ← ess2] at B
    refine r_istore (fun zz => #[.val (.int i0), .val (.int i1), .val (.int i2), .val (.int i3), .val (.ref o), .val (.ref rr), .val (.int (Int32.ofNat a0)), .val (.int (Int32.ofNat b0)), .val (.int (Int32.ofNat a1)), .val (.int (Int32.ofNat b1)), .val (.int (Int32.ofNat a2)), .val (.int (Int32.ofNat b2)), .val (.int (1 : Int32)), .val (.int u0), .val (.int zz), .unset, .unset, .unset, .unset, .unset]) Xz13 cx L_132 (fun _ => rfl) (fun u1 e_u1 => ?_)
    refine r_iload Xz13 cx L_134 rfl ?_
    refine r_ifeq Xz13 cx L_136 (fun c => absurd c (by decide)) (fun _ => ?_)
    refine r_iload Xz13 cx L_139 rfl ?_
    refine r_aload Xz13 cx L_141 rfl ?_
    refine r_iload Xz13 cx L_143 rfl ?_
    refine r_iload Xz13 cx L_145 rfl ?_
    refine r_static [(.ref rr), (.int (Int32.ofNat a1)), (.int (Int32.ofNat b1))] [(.int u1)] Xz13 cx L_147 (hw.get 24 rfl) (hw.get 25 rfl) (hw.get 26 rfl) (hw.get 27 rfl) (by decide) (con_H2 K.l K.Z _ hw rr (Int32.ofNat a1) (Int32.ofNat b1) hz13 K.n0 Xz13.ge rs1 a1 b1 A_rr okr1 (by omega) (by omega) rfl rfl g_rr) (lenOf pd_3 rfl) rfl rfl (by decide) (leb rfl) (by decide) (by decide) (fun Tz14 hz14 vz14 Xz14 qz14 => ?_) (fun _ _ q => q.1)
    obtain ⟨zz14, rfl, A_rr, Km⟩ := qz14
    obtain ⟨E_o, F_parent, F_size, A_ap, A_az, ne_o_ap, ne_o_az, ne_ap_az, g_o, g_ap, g_az⟩ := B
    replace F_parent := F_parent.keep Km (ninS ne_rr_o.symm nin0)
    replace F_size := F_size.keep Km (ninS ne_rr_o.symm nin0)
    replace E_o := E_o.keep Km
    replace A_ap := A_ap.keep Km (ninS ne_rr_ap.symm nin0)
    replace A_az := A_az.keep Km (ninS ne_rr_az.symm nin0)
    have B : DS K.Z K.n0 hz14 o ap az ps2 ss2 := ⟨E_o, F_parent, F_size, A_ap, A_az, ne_o_ap, ne_o_az, ne_ap_az, g_o, g_ap, g_az⟩
    clear E_o F_parent F_size A_ap A_az
    rw [← ers2] at A_rr
    refine r_icmpne Xz14 cx L_150 (fun c150 => ?_) (fun c150 => ?_)
    · exact absurd (by rw [e_u1, hf1]) c150
    · refine r_iconst (1) Xz14 cx L_153 rfl ?_
      refine r_goto Xz14 cx L_154 ?_
      refine r_istore (fun zz => #[.val (.int i0), .val (.int i1), .val (.int i2), .val (.int i3), .val (.ref o), .val (.ref rr), .val (.int (Int32.ofNat a0)), .val (.int (Int32.ofNat b0)), .val (.int (Int32.ofNat a1)), .val (.int (Int32.ofNat b1)), .val (.int (Int32.ofNat a2)), .val (.int (Int32.ofNat b2)), .val (.int zz), .val (.int u0), .val (.int u1), .unset, .unset, .unset, .unset, .unset]) Xz14 cx L_158 (fun _ => rfl) (fun iz15 e_iz15 => ?_)
      subst e_iz15
      refine r_aload Xz14 cx L_160 rfl ?_
      refine r_iload Xz14 cx L_162 rfl ?_
      refine r_iload Xz14 cx L_164 rfl ?_
      refine r_virtual [(.int (Int32.ofNat a2)), (.int (Int32.ofNat b2))] [] Xz14 cx L_166 B.1 (hw.get 14 rfl) (hw.get 15 rfl) (hw.get 17 rfl) (hw.get 16 rfl) (hw.get 2 rfl) (hw.get 18 rfl) (by decide) (con_P71m2 K.l K.Z _ hw o (Int32.ofNat a2) (Int32.ofNat b2) hz14 K.n0 Xz14.ge ap az ps2 ss2 a2 b2 B okp2 oks2 (by omega) (by omega) rfl rfl hu2) (lenOf pd_2 rfl) rfl rfl (by decide) (leb rfl) (by decide) (by decide) (fun Tz16 hz16 vz16 Xz16 qz16 => ?_) (fun _ _ q => q.1)
      obtain ⟨zz16, rfl, B, Ku⟩ := qz16
      replace A_rr := A_rr.keep Ku (ninS ne_rr_ap (ninS ne_rr_az nin0))
      rw [← eps3, ← ess3] at B
      refine r_istore (fun zz => #[.val (.int i0), .val (.int i1), .val (.int i2), .val (.int i3), .val (.ref o), .val (.ref rr), .val (.int (Int32.ofNat a0)), .val (.int (Int32.ofNat b0)), .val (.int (Int32.ofNat a1)), .val (.int (Int32.ofNat b1)), .val (.int (Int32.ofNat a2)), .val (.int (Int32.ofNat b2)), .val (.int (1 : Int32)), .val (.int u0), .val (.int u1), .val (.int zz), .unset, .unset, .unset, .unset]) Xz16 cx L_169 (fun _ => rfl) (fun u2 e_u2 => ?_)
      refine r_iload Xz16 cx L_171 rfl ?_
      refine r_ifeq Xz16 cx L_173 (fun c => absurd c (by decide)) (fun _ => ?_)
      refine r_iload Xz16 cx L_176 rfl ?_
      refine r_aload Xz16 cx L_178 rfl ?_
      refine r_iload Xz16 cx L_180 rfl ?_
      refine r_iload Xz16 cx L_182 rfl ?_
      refine r_static [(.ref rr), (.int (Int32.ofNat a2)), (.int (Int32.ofNat b2))] [(.int u2)] Xz16 cx L_184 (hw.get 24 rfl) (hw.get 25 rfl) (hw.get 26 rfl) (hw.get 27 rfl) (by decide) (con_H2 K.l K.Z _ hw rr (Int32.ofNat a2) (Int32.ofNat b2) hz16 K.n0 Xz16.ge rs2 a2 b2 A_rr okr2 (by omega) (by omega) rfl rfl g_rr) (lenOf pd_3 rfl) rfl rfl (by decide) (leb rfl) (by decide) (by decide) (fun Tz17 hz17 vz17 Xz17 qz17 => ?_) (fun _ _ q => q.1)
      obtain ⟨zz17, rfl, A_rr, Km⟩ := qz17
      obtain ⟨E_o, F_parent, F_size, A_ap, A_az, ne_o_ap, ne_o_az, ne_ap_az, g_o, g_ap, g_az⟩ := B
      replace F_parent := F_parent.keep Km (ninS ne_rr_o.symm nin0)
      replace F_size := F_size.keep Km (ninS ne_rr_o.symm nin0)
      replace E_o := E_o.keep Km
      replace A_ap := A_ap.keep Km (ninS ne_rr_ap.symm nin0)
      replace A_az := A_az.keep Km (ninS ne_rr_az.symm nin0)
      have B : DS K.Z K.n0 hz17 o ap az ps3 ss3 := ⟨E_o, F_parent, F_size, A_ap, A_az, ne_o_ap, ne_o_az, ne_ap_az, g_o, g_ap, g_az⟩
      clear E_o F_parent F_size A_ap A_az
      rw [← ers3] at A_rr
      refine r_icmpne Xz17 cx L_187 (fun c187 => ?_) (fun c187 => ?_)
      · exact absurd (by rw [e_u2, hf2]) c187
      · refine r_iconst (1) Xz17 cx L_190 rfl ?_
        refine r_goto Xz17 cx L_191 ?_
        refine r_istore (fun zz => #[.val (.int i0), .val (.int i1), .val (.int i2), .val (.int i3), .val (.ref o), .val (.ref rr), .val (.int (Int32.ofNat a0)), .val (.int (Int32.ofNat b0)), .val (.int (Int32.ofNat a1)), .val (.int (Int32.ofNat b1)), .val (.int (Int32.ofNat a2)), .val (.int (Int32.ofNat b2)), .val (.int zz), .val (.int u0), .val (.int u1), .val (.int u2), .unset, .unset, .unset, .unset]) Xz17 cx L_195 (fun _ => rfl) (fun iz18 e_iz18 => ?_)
        subst e_iz18
        obtain ⟨E_o, F_parent, F_size, A_ap, A_az, ne_o_ap, ne_o_az, ne_ap_az, g_o, g_ap, g_az⟩ := B
        refine r_iconst (5) Xz17 cx L_197 rfl ?_
        refine r_newarray Xz17 cx L_198 (hw.get 9 rfl) (5) 5 rfl (Nat.le_refl _) (by decide) (by decide) (by decide) (fun Tz19 hz19 ro eaz19 g_ro Xz19 Exz19 Az19 => ?_)
        have ne_ro_o : ro ≠ o := ne_new eaz19 E_o.lt
        have ne_ro_ap : ro ≠ ap := ne_new eaz19 A_ap.lt
        have ne_ro_az : ro ≠ az := ne_new eaz19 A_az.lt
        have ne_ro_rr : ro ≠ rr := ne_new eaz19 A_rr.lt
        replace F_parent := F_parent.ext Exz19
        replace F_size := F_size.ext Exz19
        replace E_o := E_o.ext Exz19
        replace A_ap := A_ap.ext Exz19
        replace A_az := A_az.ext Exz19
        replace A_rr := A_rr.ext Exz19
        have A_ro : AI .int K.Z hz19 ro [0, 0, 0, 0, 0] := AI.new Az19
        have B : DS K.Z K.n0 hz19 o ap az ps3 ss3 := ⟨E_o, F_parent, F_size, A_ap, A_az, ne_o_ap, ne_o_az, ne_ap_az, g_o, g_ap, g_az⟩
        clear E_o F_parent F_size A_ap A_az
        refine r_astore #[.val (.int i0), .val (.int i1), .val (.int i2), .val (.int i3), .val (.ref o), .val (.ref rr), .val (.int (Int32.ofNat a0)), .val (.int (Int32.ofNat b0)), .val (.int (Int32.ofNat a1)), .val (.int (Int32.ofNat b1)), .val (.int (Int32.ofNat a2)), .val (.int (Int32.ofNat b2)), .val (.int (1 : Int32)), .val (.int u0), .val (.int u1), .val (.int u2), .val (.ref ro), .unset, .unset, .unset] Xz19 cx L_200 rfl ?_
        refine r_aload Xz19 cx L_202 rfl ?_
        refine r_iconst (1) Xz19 cx L_204 rfl ?_
        refine r_aload Xz19 cx L_205 rfl ?_
        refine r_iconst (1) Xz19 cx L_207 rfl ?_
        refine r_virtual [(.int (1 : Int32))] [(.int (1 : Int32)), (.ref ro)] Xz19 cx L_208 B.1 (hw.get 28 rfl) (hw.get 20 rfl) (hw.get 22 rfl) (hw.get 21 rfl) (hw.get 2 rfl) (hw.get 23 rfl) (by decide) (con_P71m3 K.l K.Z _ hw o 1 hz19 K.n0 Xz19.ge ap az ps3 ss3 q1 1 r1 B okp3 (by decide) rfl hq1) (lenOf pd_0 rfl) rfl rfl (by decide) (leb rfl) (by decide) (by decide) (fun Tz20 hz20 vz20 Xz20 qz20 => ?_) (fun _ _ q => q.1)
        obtain ⟨zz20, rfl, B, Kr⟩ := qz20
        replace A_rr := A_rr.keep Kr (ninS ne_rr_ap nin0)
        replace A_ro := A_ro.keep Kr (ninS ne_ro_ap nin0)
        refine r_iastore Xz20 cx L_211 A_ro (1) rfl (ltb rfl) g_ro (fun Tz21 hz21 Xz21 Wz21 Nz21 => ?_)
        replace A_rr := A_rr.other Wz21 ne_ro_rr.symm
        have A_ro : AI .int K.Z hz21 ro [0, (Int32.ofNat r1), 0, 0, 0] := Nz21
        obtain ⟨E_o, F_parent, F_size, A_ap, A_az, ne_o_ap, ne_o_az, ne_ap_az, g_o, g_ap, g_az⟩ := B
        replace F_parent := F_parent.other Wz21 (Or.inl ne_ro_o.symm)
        replace F_size := F_size.other Wz21 (Or.inl ne_ro_o.symm)
        replace E_o := E_o.wr Wz21
        replace A_ap := A_ap.other Wz21 ne_ro_ap.symm
        replace A_az := A_az.other Wz21 ne_ro_az.symm
        have B : DS K.Z K.n0 hz21 o ap az q1 ss3 := ⟨E_o, F_parent, F_size, A_ap, A_az, ne_o_ap, ne_o_az, ne_ap_az, g_o, g_ap, g_az⟩
        clear E_o F_parent F_size A_ap A_az
        refine r_aload Xz21 cx L_212 rfl ?_
        refine r_iconst (2) Xz21 cx L_214 rfl ?_
        refine r_aload Xz21 cx L_215 rfl ?_
        refine r_iconst (2) Xz21 cx L_217 rfl ?_
        refine r_virtual [(.int (2 : Int32))] [(.int (2 : Int32)), (.ref ro)] Xz21 cx L_218 B.1 (hw.get 28 rfl) (hw.get 20 rfl) (hw.get 22 rfl) (hw.get 21 rfl) (hw.get 2 rfl) (hw.get 23 rfl) (by decide) (con_P71m3 K.l K.Z _ hw o 2 hz21 K.n0 Xz21.ge ap az q1 ss3 q2 2 r2 B oq1 (by decide) rfl hq2) (lenOf pd_0 rfl) rfl rfl (by decide) (leb rfl) (by decide) (by decide) (fun Tz22 hz22 vz22 Xz22 qz22 => ?_) (fun _ _ q => q.1)
        obtain ⟨zz22, rfl, B, Kr⟩ := qz22
        replace A_rr := A_rr.keep Kr (ninS ne_rr_ap nin0)
        replace A_ro := A_ro.keep Kr (ninS ne_ro_ap nin0)
        refine r_iastore Xz22 cx L_221 A_ro (2) rfl (ltb rfl) g_ro (fun Tz23 hz23 Xz23 Wz23 Nz23 => ?_)
        replace A_rr := A_rr.other Wz23 ne_ro_rr.symm
        have A_ro : AI .int K.Z hz23 ro [0, (Int32.ofNat r1), (Int32.ofNat r2), 0, 0] := Nz23
        obtain ⟨E_o, F_parent, F_size, A_ap, A_az, ne_o_ap, ne_o_az, ne_ap_az, g_o, g_ap, g_az⟩ := B
        replace F_parent := F_parent.other Wz23 (Or.inl ne_ro_o.symm)
        replace F_size := F_size.other Wz23 (Or.inl ne_ro_o.symm)
        replace E_o := E_o.wr Wz23
        replace A_ap := A_ap.other Wz23 ne_ro_ap.symm
        replace A_az := A_az.other Wz23 ne_ro_az.symm
        have B : DS K.Z K.n0 hz23 o ap az q2 ss3 := ⟨E_o, F_parent, F_size, A_ap, A_az, ne_o_ap, ne_o_az, ne_ap_az, g_o, g_ap, g_az⟩
        clear E_o F_parent F_size A_ap A_az
        refine r_aload Xz23 cx L_222 rfl ?_
        refine r_iconst (3) Xz23 cx L_224 rfl ?_
        refine r_aload Xz23 cx L_225 rfl ?_
        refine r_iconst (3) Xz23 cx L_227 rfl ?_
        refine r_virtual [(.int (3 : Int32))] [(.int (3 : Int32)), (.ref ro)] Xz23 cx L_228 B.1 (hw.get 28 rfl) (hw.get 20 rfl) (hw.get 22 rfl) (hw.get 21 rfl) (hw.get 2 rfl) (hw.get 23 rfl) (by decide) (con_P71m3 K.l K.Z _ hw o 3 hz23 K.n0 Xz23.ge ap az q2 ss3 q3 3 r3 B oq2 (by decide) rfl hq3) (lenOf pd_0 rfl) rfl rfl (by decide) (leb rfl) (by decide) (by decide) (fun Tz24 hz24 vz24 Xz24 qz24 => ?_) (fun _ _ q => q.1)
        obtain ⟨zz24, rfl, B, Kr⟩ := qz24
        replace A_rr := A_rr.keep Kr (ninS ne_rr_ap nin0)
        replace A_ro := A_ro.keep Kr (ninS ne_ro_ap nin0)
        refine r_iastore Xz24 cx L_231 A_ro (3) rfl (ltb rfl) g_ro (fun Tz25 hz25 Xz25 Wz25 Nz25 => ?_)
        replace A_rr := A_rr.other Wz25 ne_ro_rr.symm
        have A_ro : AI .int K.Z hz25 ro [0, (Int32.ofNat r1), (Int32.ofNat r2), (Int32.ofNat r3), 0] := Nz25
        obtain ⟨E_o, F_parent, F_size, A_ap, A_az, ne_o_ap, ne_o_az, ne_ap_az, g_o, g_ap, g_az⟩ := B
        replace F_parent := F_parent.other Wz25 (Or.inl ne_ro_o.symm)
        replace F_size := F_size.other Wz25 (Or.inl ne_ro_o.symm)
        replace E_o := E_o.wr Wz25
        replace A_ap := A_ap.other Wz25 ne_ro_ap.symm
        replace A_az := A_az.other Wz25 ne_ro_az.symm
        have B : DS K.Z K.n0 hz25 o ap az q3 ss3 := ⟨E_o, F_parent, F_size, A_ap, A_az, ne_o_ap, ne_o_az, ne_ap_az, g_o, g_ap, g_az⟩
        clear E_o F_parent F_size A_ap A_az
        refine r_aload Xz25 cx L_232 rfl ?_
        refine r_iconst (4) Xz25 cx L_234 rfl ?_
        refine r_aload Xz25 cx L_235 rfl ?_
        refine r_iconst (4) Xz25 cx L_237 rfl ?_
        refine r_virtual [(.int (4 : Int32))] [(.int (4 : Int32)), (.ref ro)] Xz25 cx L_238 B.1 (hw.get 28 rfl) (hw.get 20 rfl) (hw.get 22 rfl) (hw.get 21 rfl) (hw.get 2 rfl) (hw.get 23 rfl) (by decide) (con_P71m3 K.l K.Z _ hw o 4 hz25 K.n0 Xz25.ge ap az q3 ss3 q4 4 r4 B oq3 (by decide) rfl hq4) (lenOf pd_0 rfl) rfl rfl (by decide) (leb rfl) (by decide) (by decide) (fun Tz26 hz26 vz26 Xz26 qz26 => ?_) (fun _ _ q => q.1)
        obtain ⟨zz26, rfl, B, Kr⟩ := qz26
        replace A_rr := A_rr.keep Kr (ninS ne_rr_ap nin0)
        replace A_ro := A_ro.keep Kr (ninS ne_ro_ap nin0)
        refine r_iastore Xz26 cx L_241 A_ro (4) rfl (ltb rfl) g_ro (fun Tz27 hz27 Xz27 Wz27 Nz27 => ?_)
        replace A_rr := A_rr.other Wz27 ne_ro_rr.symm
        have A_ro : AI .int K.Z hz27 ro [0, (Int32.ofNat r1), (Int32.ofNat r2), (Int32.ofNat r3), (Int32.ofNat r4)] := Nz27
        obtain ⟨E_o, F_parent, F_size, A_ap, A_az, ne_o_ap, ne_o_az, ne_ap_az, g_o, g_ap, g_az⟩ := B
        replace F_parent := F_parent.other Wz27 (Or.inl ne_ro_o.symm)
        replace F_size := F_size.other Wz27 (Or.inl ne_ro_o.symm)
        replace E_o := E_o.wr Wz27
        replace A_ap := A_ap.other Wz27 ne_ro_ap.symm
        replace A_az := A_az.other Wz27 ne_ro_az.symm
        have B : DS K.Z K.n0 hz27 o ap az q4 ss3 := ⟨E_o, F_parent, F_size, A_ap, A_az, ne_o_ap, ne_o_az, ne_ap_az, g_o, g_ap, g_az⟩
        clear E_o F_parent F_size A_ap A_az
        replace A_ro : AI .int K.Z hz27 ro (own_i [0, r1, r2, r3, r4]) := A_ro
        have oko : own_ok [0, r1, r2, r3, r4] = true := by
          unfold own_ok
          simp only [List.length_cons, List.length_nil, List.all_cons, List.all_nil, Bool.and_true, Bool.and_eq_true, decide_eq_true_eq]
          refine ⟨rfl, ?_⟩
          omega
        refine r_iload Xz27 cx L_242 rfl ?_
        refine r_ifeq Xz27 cx L_244 (fun c => absurd c (by decide)) (fun _ => ?_)
        refine r_aload Xz27 cx L_247 rfl ?_
        refine r_aload Xz27 cx L_249 rfl ?_
        refine r_iconst (1) Xz27 cx L_251 rfl ?_
        refine r_static [(.ref rr), (.ref ro), (.int (1 : Int32))] [] Xz27 cx L_252 (hw.get 29 rfl) (hw.get 30 rfl) (hw.get 26 rfl) (hw.get 31 rfl) (by decide) (con_H4 K.l K.Z _ hw rr ro 1 hz27 K.n0 Xz27.ge rs3 [0, r1, r2, r3, r4] 1 A_rr A_ro okr3 oko (by decide) rfl) (lenOf pd_4 rfl) rfl rfl (by decide) (leb rfl) (by decide) (by decide) (fun Tz28 hz28 vz28 Xz28 qz28 => ?_) (fun _ _ q => Nat.le_of_eq (congrArg Array.size q.1))
        obtain ⟨rfl, rfl⟩ := qz28
        refine r_ifeq Xz28 cx L_255 (fun c255 => ?_) (fun c255 => ?_)
        · exact absurd c255 (by rw [if_pos me1] <;> decide)
        · refine r_aload Xz28 cx L_258 rfl ?_
          refine r_aload Xz28 cx L_260 rfl ?_
          refine r_iconst (2) Xz28 cx L_262 rfl ?_
          refine r_static [(.ref rr), (.ref ro), (.int (2 : Int32))] [] Xz28 cx L_263 (hw.get 29 rfl) (hw.get 30 rfl) (hw.get 26 rfl) (hw.get 31 rfl) (by decide) (con_H4 K.l K.Z _ hw rr ro 2 hz27 K.n0 Xz28.ge rs3 [0, r1, r2, r3, r4] 2 A_rr A_ro okr3 oko (by decide) rfl) (lenOf pd_4 rfl) rfl rfl (by decide) (leb rfl) (by decide) (by decide) (fun Tz29 hz29 vz29 Xz29 qz29 => ?_) (fun _ _ q => Nat.le_of_eq (congrArg Array.size q.1))
          obtain ⟨rfl, rfl⟩ := qz29
          refine r_ifeq Xz29 cx L_266 (fun c266 => ?_) (fun c266 => ?_)
          · exact absurd c266 (by rw [if_pos me2] <;> decide)
          · refine r_aload Xz29 cx L_269 rfl ?_
            refine r_aload Xz29 cx L_271 rfl ?_
            refine r_iconst (3) Xz29 cx L_273 rfl ?_
            refine r_static [(.ref rr), (.ref ro), (.int (3 : Int32))] [] Xz29 cx L_274 (hw.get 29 rfl) (hw.get 30 rfl) (hw.get 26 rfl) (hw.get 31 rfl) (by decide) (con_H4 K.l K.Z _ hw rr ro 3 hz27 K.n0 Xz29.ge rs3 [0, r1, r2, r3, r4] 3 A_rr A_ro okr3 oko (by decide) rfl) (lenOf pd_4 rfl) rfl rfl (by decide) (leb rfl) (by decide) (by decide) (fun Tz30 hz30 vz30 Xz30 qz30 => ?_) (fun _ _ q => Nat.le_of_eq (congrArg Array.size q.1))
            obtain ⟨rfl, rfl⟩ := qz30
            refine r_ifeq Xz30 cx L_277 (fun c277 => ?_) (fun c277 => ?_)
            · exact absurd c277 (by rw [if_pos me3] <;> decide)
            · refine r_aload Xz30 cx L_280 rfl ?_
              refine r_aload Xz30 cx L_282 rfl ?_
              refine r_iconst (4) Xz30 cx L_284 rfl ?_
              refine r_static [(.ref rr), (.ref ro), (.int (4 : Int32))] [] Xz30 cx L_285 (hw.get 29 rfl) (hw.get 30 rfl) (hw.get 26 rfl) (hw.get 31 rfl) (by decide) (con_H4 K.l K.Z _ hw rr ro 4 hz27 K.n0 Xz30.ge rs3 [0, r1, r2, r3, r4] 4 A_rr A_ro okr3 oko (by decide) rfl) (lenOf pd_4 rfl) rfl rfl (by decide) (leb rfl) (by decide) (by decide) (fun Tz31 hz31 vz31 Xz31 qz31 => ?_) (fun _ _ q => Nat.le_of_eq (congrArg Array.size q.1))
              obtain ⟨rfl, rfl⟩ := qz31
              refine r_ifeq Xz31 cx L_288 (fun c288 => ?_) (fun c288 => ?_)
              · exact absurd c288 (by rw [if_pos me4] <;> decide)
              · refine r_iconst (1) Xz31 cx L_291 rfl ?_
                refine r_goto Xz31 cx L_292 ?_
                refine r_istore (fun zz => #[.val (.int i0), .val (.int i1), .val (.int i2), .val (.int i3), .val (.ref o), .val (.ref rr), .val (.int (Int32.ofNat a0)), .val (.int (Int32.ofNat b0)), .val (.int (Int32.ofNat a1)), .val (.int (Int32.ofNat b1)), .val (.int (Int32.ofNat a2)), .val (.int (Int32.ofNat b2)), .val (.int zz), .val (.int u0), .val (.int u1), .val (.int u2), .val (.ref ro), .unset, .unset, .unset]) Xz31 cx L_296 (fun _ => rfl) (fun iz32 e_iz32 => ?_)
                subst e_iz32
                refine r_iload Xz31 cx L_298 rfl ?_
                refine r_ifeq Xz31 cx L_300 (fun c => absurd c (by decide)) (fun _ => ?_)
                refine r_aload Xz31 cx L_303 rfl ?_
                refine r_aload Xz31 cx L_305 rfl ?_
                refine r_iconst (1) Xz31 cx L_307 rfl ?_
                refine r_iconst (2) Xz31 cx L_308 rfl ?_
                refine r_static [(.ref rr), (.ref ro), (.int (1 : Int32)), (.int (2 : Int32))] [] Xz31 cx L_309 (hw.get 32 rfl) (hw.get 33 rfl) (hw.get 26 rfl) (hw.get 34 rfl) (by decide) (con_H3 K.l K.Z _ hw rr ro 1 2 hz27 K.n0 Xz31.ge rs3 [0, r1, r2, r3, r4] 1 2 A_rr A_ro okr3 oko (by decide) (by decide) rfl rfl) (lenOf pd_5 rfl) rfl rfl (by decide) (leb rfl) (by decide) (by decide) (fun Tz33 hz33 vz33 Xz33 qz33 => ?_) (fun _ _ q => Nat.le_of_eq (congrArg Array.size q.1))
                obtain ⟨rfl, rfl⟩ := qz33
                refine r_ifeq Xz33 cx L_312 (fun c312 => ?_) (fun c312 => ?_)
                · exact absurd c312 (by rw [if_pos pr12] <;> decide)
                · refine r_aload Xz33 cx L_315 rfl ?_
                  refine r_aload Xz33 cx L_317 rfl ?_
                  refine r_iconst (1) Xz33 cx L_319 rfl ?_
                  refine r_iconst (3) Xz33 cx L_320 rfl ?_
                  refine r_static [(.ref rr), (.ref ro), (.int (1 : Int32)), (.int (3 : Int32))] [] Xz33 cx L_321 (hw.get 32 rfl) (hw.get 33 rfl) (hw.get 26 rfl) (hw.get 34 rfl) (by decide) (con_H3 K.l K.Z _ hw rr ro 1 3 hz27 K.n0 Xz33.ge rs3 [0, r1, r2, r3, r4] 1 3 A_rr A_ro okr3 oko (by decide) (by decide) rfl rfl) (lenOf pd_5 rfl) rfl rfl (by decide) (leb rfl) (by decide) (by decide) (fun Tz34 hz34 vz34 Xz34 qz34 => ?_) (fun _ _ q => Nat.le_of_eq (congrArg Array.size q.1))
                  obtain ⟨rfl, rfl⟩ := qz34
                  refine r_ifeq Xz34 cx L_324 (fun c324 => ?_) (fun c324 => ?_)
                  · exact absurd c324 (by rw [if_pos pr13] <;> decide)
                  · refine r_aload Xz34 cx L_327 rfl ?_
                    refine r_aload Xz34 cx L_329 rfl ?_
                    refine r_iconst (1) Xz34 cx L_331 rfl ?_
                    refine r_iconst (4) Xz34 cx L_332 rfl ?_
                    refine r_static [(.ref rr), (.ref ro), (.int (1 : Int32)), (.int (4 : Int32))] [] Xz34 cx L_333 (hw.get 32 rfl) (hw.get 33 rfl) (hw.get 26 rfl) (hw.get 34 rfl) (by decide) (con_H3 K.l K.Z _ hw rr ro 1 4 hz27 K.n0 Xz34.ge rs3 [0, r1, r2, r3, r4] 1 4 A_rr A_ro okr3 oko (by decide) (by decide) rfl rfl) (lenOf pd_5 rfl) rfl rfl (by decide) (leb rfl) (by decide) (by decide) (fun Tz35 hz35 vz35 Xz35 qz35 => ?_) (fun _ _ q => Nat.le_of_eq (congrArg Array.size q.1))
                    obtain ⟨rfl, rfl⟩ := qz35
                    refine r_ifeq Xz35 cx L_336 (fun c336 => ?_) (fun c336 => ?_)
                    · exact absurd c336 (by rw [if_pos pr14] <;> decide)
                    · refine r_iconst (1) Xz35 cx L_339 rfl ?_
                      refine r_goto Xz35 cx L_340 ?_
                      refine r_istore (fun zz => #[.val (.int i0), .val (.int i1), .val (.int i2), .val (.int i3), .val (.ref o), .val (.ref rr), .val (.int (Int32.ofNat a0)), .val (.int (Int32.ofNat b0)), .val (.int (Int32.ofNat a1)), .val (.int (Int32.ofNat b1)), .val (.int (Int32.ofNat a2)), .val (.int (Int32.ofNat b2)), .val (.int zz), .val (.int u0), .val (.int u1), .val (.int u2), .val (.ref ro), .unset, .unset, .unset]) Xz35 cx L_344 (fun _ => rfl) (fun iz36 e_iz36 => ?_)
                      subst e_iz36
                      refine r_iload Xz35 cx L_346 rfl ?_
                      refine r_ifeq Xz35 cx L_348 (fun c => absurd c (by decide)) (fun _ => ?_)
                      refine r_aload Xz35 cx L_351 rfl ?_
                      refine r_aload Xz35 cx L_353 rfl ?_
                      refine r_iconst (2) Xz35 cx L_355 rfl ?_
                      refine r_iconst (3) Xz35 cx L_356 rfl ?_
                      refine r_static [(.ref rr), (.ref ro), (.int (2 : Int32)), (.int (3 : Int32))] [] Xz35 cx L_357 (hw.get 32 rfl) (hw.get 33 rfl) (hw.get 26 rfl) (hw.get 34 rfl) (by decide) (con_H3 K.l K.Z _ hw rr ro 2 3 hz27 K.n0 Xz35.ge rs3 [0, r1, r2, r3, r4] 2 3 A_rr A_ro okr3 oko (by decide) (by decide) rfl rfl) (lenOf pd_5 rfl) rfl rfl (by decide) (leb rfl) (by decide) (by decide) (fun Tz37 hz37 vz37 Xz37 qz37 => ?_) (fun _ _ q => Nat.le_of_eq (congrArg Array.size q.1))
                      obtain ⟨rfl, rfl⟩ := qz37
                      refine r_ifeq Xz37 cx L_360 (fun c360 => ?_) (fun c360 => ?_)
                      · exact absurd c360 (by rw [if_pos pr23] <;> decide)
                      · refine r_aload Xz37 cx L_363 rfl ?_
                        refine r_aload Xz37 cx L_365 rfl ?_
                        refine r_iconst (2) Xz37 cx L_367 rfl ?_
                        refine r_iconst (4) Xz37 cx L_368 rfl ?_
                        refine r_static [(.ref rr), (.ref ro), (.int (2 : Int32)), (.int (4 : Int32))] [] Xz37 cx L_369 (hw.get 32 rfl) (hw.get 33 rfl) (hw.get 26 rfl) (hw.get 34 rfl) (by decide) (con_H3 K.l K.Z _ hw rr ro 2 4 hz27 K.n0 Xz37.ge rs3 [0, r1, r2, r3, r4] 2 4 A_rr A_ro okr3 oko (by decide) (by decide) rfl rfl) (lenOf pd_5 rfl) rfl rfl (by decide) (leb rfl) (by decide) (by decide) (fun Tz38 hz38 vz38 Xz38 qz38 => ?_) (fun _ _ q => Nat.le_of_eq (congrArg Array.size q.1))
                        obtain ⟨rfl, rfl⟩ := qz38
                        refine r_ifeq Xz38 cx L_372 (fun c372 => ?_) (fun c372 => ?_)
                        · exact absurd c372 (by rw [if_pos pr24] <;> decide)
                        · refine r_aload Xz38 cx L_375 rfl ?_
                          refine r_aload Xz38 cx L_377 rfl ?_
                          refine r_iconst (3) Xz38 cx L_379 rfl ?_
                          refine r_iconst (4) Xz38 cx L_380 rfl ?_
                          refine r_static [(.ref rr), (.ref ro), (.int (3 : Int32)), (.int (4 : Int32))] [] Xz38 cx L_381 (hw.get 32 rfl) (hw.get 33 rfl) (hw.get 26 rfl) (hw.get 34 rfl) (by decide) (con_H3 K.l K.Z _ hw rr ro 3 4 hz27 K.n0 Xz38.ge rs3 [0, r1, r2, r3, r4] 3 4 A_rr A_ro okr3 oko (by decide) (by decide) rfl rfl) (lenOf pd_5 rfl) rfl rfl (by decide) (leb rfl) (by decide) (by decide) (fun Tz39 hz39 vz39 Xz39 qz39 => ?_) (fun _ _ q => Nat.le_of_eq (congrArg Array.size q.1))
                          obtain ⟨rfl, rfl⟩ := qz39
                          refine r_ifeq Xz39 cx L_384 (fun c384 => ?_) (fun c384 => ?_)
                          · exact absurd c384 (by rw [if_pos pr34] <;> decide)
                          · refine r_iconst (1) Xz39 cx L_387 rfl ?_
                            refine r_goto Xz39 cx L_388 ?_
                            refine r_istore (fun zz => #[.val (.int i0), .val (.int i1), .val (.int i2), .val (.int i3), .val (.ref o), .val (.ref rr), .val (.int (Int32.ofNat a0)), .val (.int (Int32.ofNat b0)), .val (.int (Int32.ofNat a1)), .val (.int (Int32.ofNat b1)), .val (.int (Int32.ofNat a2)), .val (.int (Int32.ofNat b2)), .val (.int zz), .val (.int u0), .val (.int u1), .val (.int u2), .val (.ref ro), .unset, .unset, .unset]) Xz39 cx L_392 (fun _ => rfl) (fun iz40 e_iz40 => ?_)
                            subst e_iz40
                            refine r_iload Xz39 cx L_394 rfl ?_
                            refine r_ifne Xz39 cx L_396 (fun _ => ?_) (fun c => absurd c (by decide))
                            refine r_iconst (1) Xz39 cx L_401 rfl ?_
                            refine r_iloadN Xz39 cx L_402 rfl ?_
                            refine r_iconst (3) Xz39 cx L_403 rfl ?_
                            refine r_iand Xz39 cx L_404 ?_
                            refine r_iadd Xz39 cx L_405 ?_
                            refine r_istore (fun zz => #[.val (.int i0), .val (.int i1), .val (.int i2), .val (.int i3), .val (.ref o), .val (.ref rr), .val (.int (Int32.ofNat a0)), .val (.int (Int32.ofNat b0)), .val (.int (Int32.ofNat a1)), .val (.int (Int32.ofNat b1)), .val (.int (Int32.ofNat a2)), .val (.int (Int32.ofNat b2)), .val (.int (1 : Int32)), .val (.int u0), .val (.int u1), .val (.int u2), .val (.ref ro), .val (.int zz), .unset, .unset]) Xz39 cx L_406 (fun _ => rfl) (fun nx e_nx => ?_)
                            obtain ⟨x, hx1, hx2, qx⟩ := own_14 i3
                            obtain rfl : nx = Int32.ofNat x := e_nx.trans qx
                            clear qx
                            have hxx := List.all_eq_true.mp hx x (own_in4 hx1 hx2)
                            simp only [own_x, Bool.and_eq_true, beq_iff_eq] at hxx
                            obtain ⟨⟨⟨y1, y2⟩, y3⟩, y4⟩ := hxx
                            obtain ⟨ox, eox⟩ : ∃ z, z = [0, r1, r2, r3, r4].getD x 0 := ⟨_, rfl⟩
                            rw [← eox] at y2 y3 y4
                            have lox : ox < 5 := eox ▸ own_okg oko x
                            have hro : (own_i [0, r1, r2, r3, r4])[x]? = some (Int32.ofNat ox) := by rw [eox]; exact own_get (by simp; omega)
                            obtain ⟨v1, hv1⟩ : ∃ v, own_root 9 q4 x = (v, ox, true) := ⟨_, by rw [← y1]; exact (own_trip _).trans (by rw [y2])⟩
                            have okv1 := (own_rok 9 q4 x oq4 (by omega)).1
                            rw [hv1] at okv1 y3 y4
                            simp only at okv1 y3 y4
                            obtain ⟨v2, hv2⟩ : ∃ v, own_root 9 v1 ox = (v, ox, true) := ⟨_, by rw [← y3]; exact (own_trip _).trans (by rw [y4])⟩
                            refine r_aload Xz39 cx L_408 rfl ?_
                            refine r_iload Xz39 cx L_410 rfl ?_
                            refine r_virtual [(.int (Int32.ofNat x))] [] Xz39 cx L_412 B.1 (hw.get 28 rfl) (hw.get 20 rfl) (hw.get 22 rfl) (hw.get 21 rfl) (hw.get 2 rfl) (hw.get 23 rfl) (by decide) (con_P71m3 K.l K.Z _ hw o (Int32.ofNat x) hz27 K.n0 Xz39.ge ap az q4 ss3 v1 x ox B oq4 (by omega) rfl hv1) (lenOf pd_0 rfl) rfl rfl (by decide) (leb rfl) (by decide) (by decide) (fun Tz41 hz41 vz41 Xz41 qz41 => ?_) (fun _ _ q => q.1)
                            obtain ⟨zz41, rfl, B, Kr⟩ := qz41
                            replace A_rr := A_rr.keep Kr (ninS ne_rr_ap nin0)
                            replace A_ro := A_ro.keep Kr (ninS ne_ro_ap nin0)
                            refine r_istore (fun zz => #[.val (.int i0), .val (.int i1), .val (.int i2), .val (.int i3), .val (.ref o), .val (.ref rr), .val (.int (Int32.ofNat a0)), .val (.int (Int32.ofNat b0)), .val (.int (Int32.ofNat a1)), .val (.int (Int32.ofNat b1)), .val (.int (Int32.ofNat a2)), .val (.int (Int32.ofNat b2)), .val (.int (1 : Int32)), .val (.int u0), .val (.int u1), .val (.int u2), .val (.ref ro), .val (.int (Int32.ofNat x)), .val (.int zz), .unset]) Xz41 cx L_415 (fun _ => rfl) (fun ag e_ag => ?_)
                            refine r_iload Xz41 cx L_417 rfl ?_
                            refine r_ifeq Xz41 cx L_419 (fun c => absurd c (by decide)) (fun _ => ?_)
                            refine r_iload Xz41 cx L_422 rfl ?_
                            refine r_aload Xz41 cx L_424 rfl ?_
                            refine r_iload Xz41 cx L_426 rfl ?_
                            refine r_iaload Xz41 cx L_428 A_ro (x) rfl (v := (Int32.ofNat ox)) hro ?_
                            refine r_icmpne Xz41 cx L_429 (fun c429 => ?_) (fun c429 => ?_)
                            · exact absurd e_ag c429
                            · refine r_iconst (1) Xz41 cx L_432 rfl ?_
                              refine r_goto Xz41 cx L_433 ?_
                              refine r_istore (fun zz => #[.val (.int i0), .val (.int i1), .val (.int i2), .val (.int i3), .val (.ref o), .val (.ref rr), .val (.int (Int32.ofNat a0)), .val (.int (Int32.ofNat b0)), .val (.int (Int32.ofNat a1)), .val (.int (Int32.ofNat b1)), .val (.int (Int32.ofNat a2)), .val (.int (Int32.ofNat b2)), .val (.int zz), .val (.int u0), .val (.int u1), .val (.int u2), .val (.ref ro), .val (.int (Int32.ofNat x)), .val (.int ag), .unset]) Xz41 cx L_437 (fun _ => rfl) (fun iz42 e_iz42 => ?_)
                              subst e_iz42
                              refine r_aload Xz41 cx L_439 rfl ?_
                              refine r_aload Xz41 cx L_441 rfl ?_
                              refine r_iload Xz41 cx L_443 rfl ?_
                              refine r_iaload Xz41 cx L_445 A_ro (x) rfl (v := (Int32.ofNat ox)) hro ?_
                              refine r_virtual [(.int (Int32.ofNat ox))] [] Xz41 cx L_446 B.1 (hw.get 28 rfl) (hw.get 20 rfl) (hw.get 22 rfl) (hw.get 21 rfl) (hw.get 2 rfl) (hw.get 23 rfl) (by decide) (con_P71m3 K.l K.Z _ hw o (Int32.ofNat ox) hz41 K.n0 Xz41.ge ap az v1 ss3 v2 ox ox B okv1 lox rfl hv2) (lenOf pd_0 rfl) rfl rfl (by decide) (leb rfl) (by decide) (by decide) (fun Tz43 hz43 vz43 Xz43 qz43 => ?_) (fun _ _ q => q.1)
                              obtain ⟨zz43, rfl, B, Kr⟩ := qz43
                              replace A_rr := A_rr.keep Kr (ninS ne_rr_ap nin0)
                              replace A_ro := A_ro.keep Kr (ninS ne_ro_ap nin0)
                              refine r_istore (fun zz => #[.val (.int i0), .val (.int i1), .val (.int i2), .val (.int i3), .val (.ref o), .val (.ref rr), .val (.int (Int32.ofNat a0)), .val (.int (Int32.ofNat b0)), .val (.int (Int32.ofNat a1)), .val (.int (Int32.ofNat b1)), .val (.int (Int32.ofNat a2)), .val (.int (Int32.ofNat b2)), .val (.int (1 : Int32)), .val (.int u0), .val (.int u1), .val (.int u2), .val (.ref ro), .val (.int (Int32.ofNat x)), .val (.int ag), .val (.int zz)]) Xz43 cx L_449 (fun _ => rfl) (fun fx e_fx => ?_)
                              refine r_iload Xz43 cx L_451 rfl ?_
                              refine r_ifeq Xz43 cx L_453 (fun c => absurd c (by decide)) (fun _ => ?_)
                              refine r_iload Xz43 cx L_456 rfl ?_
                              refine r_aload Xz43 cx L_458 rfl ?_
                              refine r_iload Xz43 cx L_460 rfl ?_
                              refine r_iaload Xz43 cx L_462 A_ro (x) rfl (v := (Int32.ofNat ox)) hro ?_
                              refine r_icmpne Xz43 cx L_463 (fun c463 => ?_) (fun c463 => ?_)
                              · exact absurd e_fx c463
                              · refine r_iconst (1) Xz43 cx L_466 rfl ?_
                                refine r_goto Xz43 cx L_467 ?_
                                refine r_istore (fun zz => #[.val (.int i0), .val (.int i1), .val (.int i2), .val (.int i3), .val (.ref o), .val (.ref rr), .val (.int (Int32.ofNat a0)), .val (.int (Int32.ofNat b0)), .val (.int (Int32.ofNat a1)), .val (.int (Int32.ofNat b1)), .val (.int (Int32.ofNat a2)), .val (.int (Int32.ofNat b2)), .val (.int zz), .val (.int u0), .val (.int u1), .val (.int u2), .val (.ref ro), .val (.int (Int32.ofNat x)), .val (.int ag), .val (.int fx)]) Xz43 cx L_471 (fun _ => rfl) (fun iz44 e_iz44 => ?_)
                                subst e_iz44
                                refine r_iload Xz43 cx L_473 rfl ?_
                                refine r_zreturn Xz43 cx L_475 (by decide) (by decide) ?_
                                rfl
set_option maxRecDepth 65536 in
set_option maxHeartbeats 40000000 in
theorem comes_1 {Post : Tables → Env → Array Value → State → Outcome → State → Prop} (hpost : ∀ tb e args s v u, (limb_1_1.after args s (.returned v) u = true ∧ limb_1_2.after args s (.returned v) u = true ∧ True) → FrameEnd s (.returned v) u (Jvm.fieldLocs frame_1_writes args s ++ Jvm.arrayLocs frame_1_arrays args s ++ Jvm.staticLocs frame_1_statics s) 24 128 → Post tb e args s (.returned v) u) :
    ArmFor flags0 classFile x code maxLocals ret World_1 tables_1 room_1 Calls_1 rest_1 Pre_1 Post := by
  intro l hfl _ _ p e ha hc hk s m args below hf hA hF happ hP
  obtain ⟨hcalls, hrest, hpre⟩ := hP
  obtain ⟨-, -, -, hnamed, -, -, -, hat⟩ := (Spec.applies_iff hf).mp happ
  obtain ⟨hg, hn⟩ := and_e (Cond.before_iff.mp (show (Jvm.Cond.and given_1 narrow_1).before args s = true from hpre))
  obtain ⟨gc, r0⟩ := and_e hg
  obtain ⟨g0, r1⟩ := and_e r0
  obtain ⟨g1, r2⟩ := and_e r1
  obtain ⟨g2, r3⟩ := and_e r2
  obtain ⟨w0, w1, w2, w3, rfl⟩ : ∃ w0 w1 w2 w3 : Value, args = #[w0, w1, w2, w3] := by
    have hs : args.size = 4 := by simpa [Cond.value, given_1] using gc
    obtain ⟨L⟩ := args
    match L, hs with
    | [w0, w1, w2, w3], _ => exact ⟨w0, w1, w2, w3, rfl⟩
  have hw : Tb tables_1 #[w0, w1, w2, w3] s := fun d (hd : d ∈ tables_1) => atoms_spec (ws := Jvm.Cond.code x code maxLocals ret :: tables_1) hat d (List.mem_cons_of_mem _ hd)
  obtain ⟨i0, ei0⟩ := is_v g0
  obtain rfl : w0 = (.int i0) := Option.some.inj ei0
  obtain ⟨i1, ei1⟩ := is_v g1
  obtain rfl : w1 = (.int i1) := Option.some.inj ei1
  obtain ⟨i2, ei2⟩ := is_v g2
  obtain rfl : w2 = (.int i2) := Option.some.inj ei2
  obtain ⟨i3, ei3⟩ := is_v r3
  obtain rfl : w3 = (.int i3) := Option.some.inj ei3
  obtain ⟨n, o, h1, h2, h3, _, L, rfl, ⟨rfl, N⟩, hq⟩ := con_L l s _ hw i0 i1 i2 i3 s.heap s.heap.size (Nat.le_refl _) tables_1 p e ha hc hk s m _ below hf ((Spec.applies_iff_loose hf).mp happ).1 ⟨rfl, State.Warmed39.refl s, rfl⟩ trivial
  refine ⟨n, _, h1, h2, h3, hpost _ _ _ _ _ _ ⟨Cond.after_iff.mpr rfl, Cond.after_iff.mpr (eq_i res_at (Term.int_eval (1)) rfl), trivial⟩ ⟨hq.1, hq.2.1, (hq.2.2.sift fun y hy => Or.inr (N y hy)).mono (by decide) (by decide)⟩⟩
theorem main_1_1 : Claimed_1_1 := comes_1 fun _ _ _ _ _ _ h hF => ⟨h.1, hF⟩
theorem main_1_2 : Claimed_1_2 := comes_1 fun _ _ _ _ _ _ h hF => ⟨h.2.1, hF⟩
end Jvm.Pilot.@@N@@
namespace Jvm.Pilot.@@N@@
open Jvm Jvm.ClassFile Sem Op Lib Jvm.Free Jvm.Stand Jvm.Pilot.@@N@@.Jvm.D
/-! MADE BY PROGRAM (witnessworld.py) out of the Statement's table words and the real class files: 9 classes; the members and pool entries that the words name. The judged class is class 1, her method 4. -/
namespace start1
open Jvm.ClassFile
def u (s : String) : CpInfo := .utf8 (stringToUtf16 s)
/-- a pool by its gaps: so many unusable entries, then the entry; so many at the end -/
def gap : Nat → List CpInfo → List CpInfo
  | 0, r => r
  | n + 1, r => .unusable :: gap n r
def poolList (es : List (Nat × CpInfo)) (last : Nat) : List CpInfo := es.foldr (fun e r => gap e.1 (e.2 :: r)) (gap last [])
def pool (es : List (Nat × CpInfo)) (last : Nat) : Array CpInfo := ⟨poolList es last⟩
def fileOf (pool : Array CpInfo) (this : Nat) (attrs : Array Attribute := #[]) (ms : Array MethodInfo := #[]) (fl : Nat := 33) (sup : Nat := 0) (ifs : Array Nat := #[]) (fds : Array FieldInfo := #[]) : ClassFile where
  minorVersion := 0
  majorVersion := 65
  constantPool := pool
  accessFlags := fl
  thisClass := this
  superClass := sup
  interfaces := ifs
  fields := fds
  methods := ms
  attributes := attrs
def plain (name : String) (sup : Option ClassId) : Class where
  name := name
  kind := .ordinary
  loader := none
  accessFlags := 33
  super := sup
  interfaces := #[]
  cf := none
  fields := #[]
  methods := #[]
  instanceTypes := #[]
  staticTypes := #[]
  resolved := #[]
  callSites := []
  init := .initialized
  statics := none
  mirror := none

def pool0 : Array CpInfo := pool [(5, u "<init>"), (0, u "()V"), (1, .class_ 10), (1, u "java/lang/Object")] 113

def k0c0 : Code := { maxStack := 0, maxLocals := 1, code := object_method_1_code, exceptionTable := #[], attributes := #[] }
def k0m0 : Method := { name := "<init>", desc := "()V", sig := { parameters := [], returnType := none }, accessFlags := 1, code := some k0c0 }
/-- java/lang/Object -/
def k0 : Class := { plain "java/lang/Object" none with
  accessFlags := 33
  interfaces := #[]
  cf := some (fileOf pool0 8 #[] #[{ accessFlags := 1, nameIndex := 5, descriptorIndex := 6, attributes := #[] }] 33 0 #[] #[])
  fields := #[]
  methods := #[k0m0]
  instanceTypes := #[]
  staticTypes := #[]
  resolved := Array.replicate 124 none
  statics := none }

def pool1 : Array CpInfo := pool [(2, .class_ 4), (1, u "java/lang/Object"), (0, u "<init>"), (0, u "()V"), (0, .class_ 8), (0, u "com/example/lacewood/lacewood/spanning/DisjointSets"), (0, .methodref 7 10), (0, .nameAndType 5 11), (0, u "(I)V"), (0, .methodref 7 13), (0, .nameAndType 14 15), (0, u "union"), (0, u "(II)Z"), (0, .methodref 17 18), (0, .class_ 19), (0, .nameAndType 20 21), (0, u "com/example/lacewood/lacewood/spanning/DisjointSetsRootPinLaw"), (0, u "modelUnion"), (0, u "([III)Z"), (0, .methodref 7 23), (0, .nameAndType 24 25), (0, u "root"), (0, u "(I)I"), (0, .methodref 17 27), (0, .nameAndType 28 29), (0, u "memberOk"), (0, u "([I[II)Z"), (0, .methodref 17 31), (0, .nameAndType 32 33), (0, u "pairOk"), (0, u "([I[III)Z"), (5, u "law"), (0, u "(IIII)Z")] 2

def k1m0 : Method := { name := "<init>", desc := "()V", sig := { parameters := [], returnType := none }, accessFlags := 1, code := none }
def k1c1 : Code := { maxStack := 3, maxLocals := 5, code := method_2_code, exceptionTable := #[], attributes := #[] }
def k1m1 : Method := { name := "modelUnion", desc := "([III)Z", sig := { parameters := [(.array .int), .int, .int], returnType := some .boolean }, accessFlags := 10, code := some k1c1 }
def k1c2 : Code := { maxStack := 4, maxLocals := 4, code := method_3_code, exceptionTable := #[], attributes := #[] }
def k1m2 : Method := { name := "pairOk", desc := "([I[III)Z", sig := { parameters := [(.array .int), (.array .int), .int, .int], returnType := some .boolean }, accessFlags := 10, code := some k1c2 }
def k1c3 : Code := { maxStack := 3, maxLocals := 4, code := method_4_code, exceptionTable := #[], attributes := #[] }
def k1m3 : Method := { name := "memberOk", desc := "([I[II)Z", sig := { parameters := [(.array .int), (.array .int), .int], returnType := some .boolean }, accessFlags := 10, code := some k1c3 }
def k1c4 : Code := { maxStack := 4, maxLocals := 20, code := code, exceptionTable := #[], attributes := #[] }
def k1m4 : Method := { name := "law", desc := "(IIII)Z", sig := { parameters := [.int, .int, .int, .int], returnType := some .boolean }, accessFlags := 9, code := some k1c4 }
/-- com/example/lacewood/lacewood/spanning/DisjointSetsRootPinLaw -/
def k1 : Class := { plain "com/example/lacewood/lacewood/spanning/DisjointSetsRootPinLaw" (some 0) with
  accessFlags := 49
  interfaces := #[]
  cf := some (fileOf pool1 17 #[] #[{ accessFlags := 1, nameIndex := 5, descriptorIndex := 6, attributes := #[] }, { accessFlags := 10, nameIndex := 20, descriptorIndex := 21, attributes := #[] }, { accessFlags := 10, nameIndex := 32, descriptorIndex := 33, attributes := #[] }, { accessFlags := 10, nameIndex := 28, descriptorIndex := 29, attributes := #[] }, { accessFlags := 9, nameIndex := 39, descriptorIndex := 40, attributes := #[] }] 49 2 #[] #[])
  fields := #[]
  methods := #[k1m0, k1m1, k1m2, k1m3, k1m4]
  instanceTypes := #[]
  staticTypes := #[]
  resolved := Array.replicate 43 none
  statics := none }

def pool2 : Array CpInfo := pool [(1, .methodref 2 3), (0, .class_ 4), (0, .nameAndType 5 6), (0, u "java/lang/Object"), (0, u "<init>"), (0, u "()V"), (0, .fieldref 8 9), (0, .class_ 10), (0, .nameAndType 11 12), (0, u "com/example/lacewood/lacewood/spanning/DisjointSets"), (0, u "parent"), (0, u "[I"), (0, .fieldref 8 14), (0, .nameAndType 15 12), (0, u "size"), (0, .methodref 8 17), (0, .nameAndType 18 19), (0, u "root"), (0, u "(I)I"), (0, u "(I)V"), (3, u "union"), (0, u "(II)Z")] 2

def k2c0 : Code := { maxStack := 3, maxLocals := 3, code := prog_71_method_1_code, exceptionTable := #[], attributes := #[] }
def k2m0 : Method := { name := "<init>", desc := "(I)V", sig := { parameters := [.int], returnType := none }, accessFlags := 0, code := some k2c0 }
def k2c1 : Code := { maxStack := 5, maxLocals := 6, code := prog_71_method_2_code, exceptionTable := #[], attributes := #[] }
def k2m1 : Method := { name := "union", desc := "(II)Z", sig := { parameters := [.int, .int], returnType := some .boolean }, accessFlags := 0, code := some k2c1 }
def k2c2 : Code := { maxStack := 5, maxLocals := 3, code := prog_71_method_3_code, exceptionTable := #[], attributes := #[] }
def k2m2 : Method := { name := "root", desc := "(I)I", sig := { parameters := [.int], returnType := some .int }, accessFlags := 0, code := some k2c2 }
/-- com/example/lacewood/lacewood/spanning/DisjointSets -/
def k2 : Class := { plain "com/example/lacewood/lacewood/spanning/DisjointSets" (some 0) with
  accessFlags := 48
  interfaces := #[]
  cf := some (fileOf pool2 8 #[] #[{ accessFlags := 0, nameIndex := 5, descriptorIndex := 20, attributes := #[] }, { accessFlags := 0, nameIndex := 24, descriptorIndex := 25, attributes := #[] }, { accessFlags := 0, nameIndex := 18, descriptorIndex := 19, attributes := #[] }] 48 2 #[] #[{ accessFlags := 18, nameIndex := 11, descriptorIndex := 12, attributes := #[] }, { accessFlags := 18, nameIndex := 15, descriptorIndex := 12, attributes := #[] }])
  fields := #[{ name := "parent", type := (.array .int), accessFlags := 18, slot := 0, constantValue := 0 }, { name := "size", type := (.array .int), accessFlags := 18, slot := 1, constantValue := 0 }]
  methods := #[k2m0, k2m1, k2m2]
  instanceTypes := #[(.array .int), (.array .int)]
  staticTypes := #[]
  resolved := Array.replicate 28 none
  statics := none }

def pool3 : Array CpInfo := pool [(1, u "java/lang/Cloneable"), (0, .class_ 1), (0, u "java/lang/Object"), (0, .class_ 3)] 3

/-- java/lang/Cloneable -/
def k3 : Class := { plain "java/lang/Cloneable" (some 0) with
  accessFlags := 1537
  interfaces := #[]
  cf := some (fileOf pool3 2 #[] #[] 1537 4 #[] #[])
  fields := #[]
  methods := #[]
  instanceTypes := #[]
  staticTypes := #[]
  resolved := Array.replicate 8 none
  statics := none }

def pool4 : Array CpInfo := pool [(1, u "java/io/Serializable"), (0, .class_ 1), (0, u "java/lang/Object"), (0, .class_ 3)] 3

/-- java/io/Serializable -/
def k4 : Class := { plain "java/io/Serializable" (some 0) with
  accessFlags := 1537
  interfaces := #[]
  cf := some (fileOf pool4 2 #[] #[] 1537 4 #[] #[])
  fields := #[]
  methods := #[]
  instanceTypes := #[]
  staticTypes := #[]
  resolved := Array.replicate 8 none
  statics := none }

/-- the primitive byte -/
def k5 : Class := { plain "byte" none with kind := .primitive 'B', accessFlags := 0x411 }
/-- [B -/
def k6 : Class := { plain "[B" (some 0) with kind := .array 5 .byte, interfaces := #[3, 4], accessFlags := 1041 }

/-- the primitive int -/
def k7 : Class := { plain "int" none with kind := .primitive 'I', accessFlags := 0x411 }
/-- [I -/
def k8 : Class := { plain "[I" (some 0) with kind := .array 7 .int, interfaces := #[3, 4], accessFlags := 1041 }

def heap : Heap := #[]
def classes : Array Class := #[k0, k1, k2, k3, k4, k5, k6, k7, k8]
def interned : List (Array UInt16 × Addr) := []
def slotsUsed : Nat := 0
def theMethod : MethodId := ⟨1, 4⟩
def args0 : Array Value := #[.int 5, .int 6, .int 7, .int 8]
def aboutOver (below : List Frame) : State where
  vm := { classes := classes, interned := interned.toArray }
  heap := heap
  slotsUsed := slotsUsed
  threads := #[{ frames := .invoking theMethod args0 :: below }]
def below0 : List Frame := [.native { method := ⟨0, 0⟩, args := #[] }]
def about1 : State := aboutOver below0
def p0 : Program := .bare "" "" ""
def e0 : Env := launch0.env 0 0 0
theorem w_frames : about1.frames = Frame.invoking theMethod args0 :: below0 := rfl
set_option maxRecDepth 65536 in
theorem w_args : argsFit about1.vm theMethod args0 = true := by decide +kernel
set_option maxRecDepth 65536 in
theorem w_heap : heapFits about1 = true := by decide +kernel
set_option maxRecDepth 65536 in
theorem w_runnable : about1.curStatus? = some .runnable := by decide +kernel
set_option maxRecDepth 65536 in
theorem w_alone : about1.alone = true := by decide +kernel
set_option maxRecDepth 65536 in
theorem w_named : about1.methodNamed? x = some theMethod := by decide +kernel
set_option maxRecDepth 65536 in
theorem w_hears : about1.hears theMethod below0 = true := by decide +kernel
set_option maxRecDepth 65536 in
theorem w_ripe : about1.ripe theMethod args0 below0 = true := by decide +kernel
theorem w_running : about1.status = .running := rfl
set_option maxRecDepth 65536 in
theorem w_room : about1.hasRoom e0.platform room_1 = true :=
  launch0.hasRoom_least _ room_1 (by decide +kernel) (by decide +kernel) (by decide +kernel) (by decide +kernel) (by decide +kernel) (by decide +kernel)
theorem allAtoms_all (ts : List Jvm.Cond) (a : Array Jvm.Value) (st : Jvm.State) : (allAtoms ts).before a st = ts.all (fun c => c.before a st) := by
  induction ts with
  | nil => rfl
  | cons c t ih =>
    show (Jvm.Cond.and c (allAtoms t)).before a st = _
    rw [Jvm.Cond.before_and, ih, List.all_cons]
def words1 : List Jvm.Cond := Jvm.Cond.code x code maxLocals ret :: tables_1
/-- a 'code' word, met by the world's own term for the bytes: nothing is compared byte by byte -/
theorem code_word {y : MethodName} {bytes : ByteArray} {mx : Nat} {rt : Option FieldType} {a : Array Value} {s : State} {m : MethodId} {meth : Method} {c : Code} (h1 : s.methodNamed? y = some m) (h2 : s.vm.method? m = some meth) (h3 : meth.code = some c) (h4 : c.code = bytes)
    (h5 : (c.maxLocals == mx && c.exceptionTable.isEmpty && decide (c.maxStack ≤ mostOperands) && decide (meth.sig.returnType = rt) && !meth.locks && decide (parseMethodDescriptor y.desc = some meth.sig)) = true) : (Jvm.Cond.code y bytes mx rt).before a s = true := by
  simp only [Bool.and_eq_true, beq_iff_eq, Bool.not_eq_true', decide_eq_true_eq] at h5
  obtain ⟨⟨⟨⟨⟨g1, g2⟩, g3⟩, g4⟩, g5⟩, g6⟩ := h5
  simp [Cond.before, Cond.holds, Cond.value, h1, h2, h3, h4, g1, g2, g3, g4, g5, g6]
def isCode : Jvm.Cond → Bool
  | .code _ _ _ _ => true
  | _ => false
theorem all_split {L : List Jvm.Cond} {P : Jvm.Cond → Bool} (h1 : L.all (fun c => isCode c || P c) = true) (h2 : ∀ c ∈ L.filter isCode, P c = true) : L.all P = true := by
  refine List.all_eq_true.mpr fun c hc => ?_
  have h := List.all_eq_true.mp h1 c hc
  rcases Bool.eq_false_or_eq_true (isCode c) with hi | hi
  · exact h2 c (List.mem_filter.mpr ⟨hc, hi⟩)
  · simpa [hi] using h
set_option maxRecDepth 65536 in
theorem w_c0 : (Jvm.Cond.code x code maxLocals ret).before args0 about1 = true := code_word (m := ⟨1, 4⟩) (meth := k1m4) (c := k1c4) (by decide +kernel) rfl rfl rfl (by decide +kernel)
set_option maxRecDepth 65536 in
theorem w_c1 : (Jvm.Cond.code ({ cls := "com/example/lacewood/lacewood/spanning/DisjointSets", name := "<init>", desc := "(I)V" } : Jvm.MethodName) prog_71_method_1_code (3 : Nat) (Option.none : Option Jvm.ClassFile.FieldType)).before args0 about1 = true := code_word (m := ⟨2, 0⟩) (meth := k2m0) (c := k2c0) (by decide +kernel) rfl rfl rfl (by decide +kernel)
set_option maxRecDepth 65536 in
theorem w_c2 : (Jvm.Cond.code ({ cls := "java/lang/Object", name := "<init>", desc := "()V" } : Jvm.MethodName) object_method_1_code (1 : Nat) (Option.none : Option Jvm.ClassFile.FieldType)).before args0 about1 = true := code_word (m := ⟨0, 0⟩) (meth := k0m0) (c := k0c0) (by decide +kernel) rfl rfl rfl (by decide +kernel)
set_option maxRecDepth 65536 in
theorem w_c3 : (Jvm.Cond.code ({ cls := "com/example/lacewood/lacewood/spanning/DisjointSets", name := "union", desc := "(II)Z" } : Jvm.MethodName) prog_71_method_2_code (6 : Nat) (Option.some Jvm.ClassFile.FieldType.boolean)).before args0 about1 = true := code_word (m := ⟨2, 1⟩) (meth := k2m1) (c := k2c1) (by decide +kernel) rfl rfl rfl (by decide +kernel)
set_option maxRecDepth 65536 in
theorem w_c4 : (Jvm.Cond.code ({ cls := "com/example/lacewood/lacewood/spanning/DisjointSets", name := "root", desc := "(I)I" } : Jvm.MethodName) prog_71_method_3_code (3 : Nat) (Option.some Jvm.ClassFile.FieldType.int)).before args0 about1 = true := code_word (m := ⟨2, 2⟩) (meth := k2m2) (c := k2c2) (by decide +kernel) rfl rfl rfl (by decide +kernel)
set_option maxRecDepth 65536 in
theorem w_c5 : (Jvm.Cond.code ({ cls := "com/example/lacewood/lacewood/spanning/DisjointSetsRootPinLaw", name := "modelUnion", desc := "([III)Z" } : Jvm.MethodName) method_2_code (5 : Nat) (Option.some Jvm.ClassFile.FieldType.boolean)).before args0 about1 = true := code_word (m := ⟨1, 1⟩) (meth := k1m1) (c := k1c1) (by decide +kernel) rfl rfl rfl (by decide +kernel)
set_option maxRecDepth 65536 in
theorem w_c6 : (Jvm.Cond.code ({ cls := "com/example/lacewood/lacewood/spanning/DisjointSetsRootPinLaw", name := "memberOk", desc := "([I[II)Z" } : Jvm.MethodName) method_4_code (4 : Nat) (Option.some Jvm.ClassFile.FieldType.boolean)).before args0 about1 = true := code_word (m := ⟨1, 3⟩) (meth := k1m3) (c := k1c3) (by decide +kernel) rfl rfl rfl (by decide +kernel)
set_option maxRecDepth 65536 in
theorem w_c7 : (Jvm.Cond.code ({ cls := "com/example/lacewood/lacewood/spanning/DisjointSetsRootPinLaw", name := "pairOk", desc := "([I[III)Z" } : Jvm.MethodName) method_3_code (4 : Nat) (Option.some Jvm.ClassFile.FieldType.boolean)).before args0 about1 = true := code_word (m := ⟨1, 2⟩) (meth := k1m2) (c := k1c2) (by decide +kernel) rfl rfl rfl (by decide +kernel)
def codes1 : List Jvm.Cond := [Jvm.Cond.code x code maxLocals ret, Jvm.Cond.code ({ cls := "com/example/lacewood/lacewood/spanning/DisjointSets", name := "<init>", desc := "(I)V" } : Jvm.MethodName) prog_71_method_1_code (3 : Nat) (Option.none : Option Jvm.ClassFile.FieldType), Jvm.Cond.code ({ cls := "java/lang/Object", name := "<init>", desc := "()V" } : Jvm.MethodName) object_method_1_code (1 : Nat) (Option.none : Option Jvm.ClassFile.FieldType), Jvm.Cond.code ({ cls := "com/example/lacewood/lacewood/spanning/DisjointSets", name := "union", desc := "(II)Z" } : Jvm.MethodName) prog_71_method_2_code (6 : Nat) (Option.some Jvm.ClassFile.FieldType.boolean), Jvm.Cond.code ({ cls := "com/example/lacewood/lacewood/spanning/DisjointSets", name := "root", desc := "(I)I" } : Jvm.MethodName) prog_71_method_3_code (3 : Nat) (Option.some Jvm.ClassFile.FieldType.int), Jvm.Cond.code ({ cls := "com/example/lacewood/lacewood/spanning/DisjointSetsRootPinLaw", name := "modelUnion", desc := "([III)Z" } : Jvm.MethodName) method_2_code (5 : Nat) (Option.some Jvm.ClassFile.FieldType.boolean), Jvm.Cond.code ({ cls := "com/example/lacewood/lacewood/spanning/DisjointSetsRootPinLaw", name := "memberOk", desc := "([I[II)Z" } : Jvm.MethodName) method_4_code (4 : Nat) (Option.some Jvm.ClassFile.FieldType.boolean), Jvm.Cond.code ({ cls := "com/example/lacewood/lacewood/spanning/DisjointSetsRootPinLaw", name := "pairOk", desc := "([I[III)Z" } : Jvm.MethodName) method_3_code (4 : Nat) (Option.some Jvm.ClassFile.FieldType.boolean)]
set_option maxRecDepth 65536 in
theorem codes_eq : words1.filter isCode = codes1 := rfl
theorem w_codes : ∀ c ∈ words1.filter isCode, c.before args0 about1 = true := by
  rw [codes_eq]
  intro c hc
  simp only [codes1, List.mem_cons, List.not_mem_nil, or_false] at hc
  rcases hc with rfl | rfl | rfl | rfl | rfl | rfl | rfl | rfl
  · exact w_c0
  · exact w_c1
  · exact w_c2
  · exact w_c3
  · exact w_c4
  · exact w_c5
  · exact w_c6
  · exact w_c7
set_option maxRecDepth 65536 in
theorem w_t1 : (words1.take 24).all (fun c => isCode c || c.before args0 about1) = true := by decide +kernel
set_option maxRecDepth 65536 in
theorem w_t2 : (words1.drop 24).all (fun c => isCode c || c.before args0 about1) = true := by decide +kernel
theorem w_tables : (allAtoms (Jvm.Cond.code x code maxLocals ret :: tables_1)).before args0 about1 = true := by
  rw [allAtoms_all]
  show words1.all (fun c => c.before args0 about1) = true
  refine all_split ?_ w_codes
  rw [← List.take_append_drop 24 words1, List.all_append, w_t1, w_t2]
  rfl
set_option maxRecDepth 65536 in
theorem w_case : (Jvm.Cond.and given_1 narrow_1).before args0 about1 = true := by decide +kernel
theorem w_applies : (headSpec (Jvm.Cond.code x code maxLocals ret :: tables_1) room_1).applies x e0.platform about1 = true :=
  (Spec.applies_iff w_frames).mpr ⟨w_running, w_runnable, w_alone, w_named, w_hears, w_ripe, w_room, w_tables⟩
theorem atStart : AtStart classFile x code maxLocals ret World_1 tables_1 room_1 Calls_1 rest_1 Pre_1 launch0 p0 e0 about1 theMethod args0 below0 :=
  ⟨lists_1, trivial, launch0.admits_env _ _ _, launch0.least_env, fairChoices_fair.cas, fairChoices_fair.clock, w_frames, w_args, w_heap, w_applies, trivial, trivial, w_case⟩
end start1
theorem witness_1 : WitnessClaimed_1 := ⟨start1.p0, start1.e0, start1.about1, start1.theMethod, start1.args0, start1.below0, start1.atStart⟩
end Jvm.Pilot.@@N@@

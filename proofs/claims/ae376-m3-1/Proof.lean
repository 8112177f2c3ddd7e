import JvmDerived
import JvmDerived.Pilot.@@N@@Statement
import JvmDerived.Pilot.@@N@@Code
set_option linter.unusedVariables false
set_option linter.unusedSimpArgs false
namespace Jvm.RoadKit
open Sem ClassFile Op Lib Jvm.Stand Jvm.Free Jvm.LawKit
section New
variable {p : Program} {l : Launch} {e : Env} {R : Room} {s : State} {m : MethodId} {args : Array Value} {below : List Frame} {meth : Method} {c : Code} {T : State} {locs : List Loc} {cells slots : Nat}
theorem retI (X : Stand p l e R s m args below meth c T locs cells slots) (hx : p.tables.exec = Jvm.exec) {pc : Nat} {Ls : Array Slot} {z : Int32} {rest : List Value} (hret : meth.sig.returnType = some .int) (hd : decode c.code pc = .ok (.ireturn, 1)) {fs : List Frame}
    (hl : ∀ (f : JFrame) (acts : List Action), f.method = m → f.locked = none → f.entered = [] → (doReturn e (T.setTop f) acts (some (.int z))).1 = T.setFrames fs) : Steps p.tables e below (T.setTop (mkF m pc Ls (.int z :: rest))) (T.setFrames fs) := by
  have hm' : T.vm.method? m = some meth := X.method'
  have hn : narrow .int (.int z) = .int z := rfl
  show Steps p.tables e below (T.setTop { method := m, pc := pc, locals := Ls, stack := _ :: rest, locked := none }) _
  jvm_step X.here [X.here.top, hx, hd, hm', hret, hn]
  first | (intro acts; rw [hl _ acts rfl rfl rfl]) | rw [hl _ _ rfl rfl rfl]
  exact Steps.refl _
end New
end Jvm.RoadKit
namespace Jvm.Own
open Sem ClassFile Op Lib Jvm.Stand Jvm.Free Jvm.LawKit Jvm.RoadKit
/-- the constants of one body's walk -/
abbrev KT := Program × Launch × Env × Room × State × MethodId × Array Value × List Frame × Method × Code × State × Nat
abbrev KT.p (K : KT) : Program := K.1
abbrev KT.l (K : KT) : Launch := K.2.1
abbrev KT.e (K : KT) : Env := K.2.2.1
abbrev KT.R (K : KT) : Room := K.2.2.2.1
abbrev KT.s (K : KT) : State := K.2.2.2.2.1
abbrev KT.m (K : KT) : MethodId := K.2.2.2.2.2.1
abbrev KT.args (K : KT) : Array Value := K.2.2.2.2.2.2.1
abbrev KT.below (K : KT) : List Frame := K.2.2.2.2.2.2.2.1
abbrev KT.meth (K : KT) : Method := K.2.2.2.2.2.2.2.2.1
abbrev KT.c (K : KT) : Code := K.2.2.2.2.2.2.2.2.2.1
abbrev KT.Z (K : KT) : State := K.2.2.2.2.2.2.2.2.2.2.1
abbrev KT.n0 (K : KT) : Nat := K.2.2.2.2.2.2.2.2.2.2.2
/-- what is known of the body -/
def Cx (K : KT) (y : MethodName) (bytes : ByteArray) (mx : Nat) (rt : Option FieldType) (R : Room) : Prop :=
  K.p.tables.exec = Jvm.exec ∧ K.Z.Warmed39 K.s.vm ∧ K.c.code = bytes ∧ K.c.maxLocals = mx ∧ K.s.vm.findClass y.cls = some K.m.cls ∧ K.meth.sig.returnType = rt ∧ K.meth.locks = false ∧ K.R = R ∧ K.meth.name = y.name
/-- where the walk stands: heap h, so many cells and slots made; nothing old written -/
def Sd (K : KT) (T : State) (h : Heap) (cl sl : Nat) : Prop := ∃ locs, Stand K.p K.l K.e K.R K.s K.m K.args K.below K.meth K.c T locs cl sl ∧ Fr K.n0 locs ∧ K.n0 ≤ h.size ∧ T.heap = h
/-- from here the body comes to its end, and Q holds of what it returns and of the heap then -/
def Run (K : KT) (Q : Option Value → Heap → Prop) (T : State) (g : JFrame) : Prop :=
  ∃ s₂ v L, Steps K.p.tables K.e K.below (T.setTop g) s₂ ∧ s₂.status = .running ∧ Ended s₂ K.below (.returned v) ∧ Q v s₂.heap ∧ Fr K.n0 L ∧ FrameEnd K.s (.returned v) s₂ L K.R.cells K.R.slots
theorem Run.st {K : KT} {Q : Option Value → Heap → Prop} {T T' : State} {g g' : JFrame} (st : ∀ t, Steps K.p.tables K.e K.below (T'.setTop g') t → Steps K.p.tables K.e K.below (T.setTop g) t) (k : Run K Q T' g') : Run K Q T g := by
  obtain ⟨s₂, v, L, h1, h2⟩ := k
  exact ⟨s₂, v, L, st _ h1, h2⟩
theorem Run.cast {K : KT} {Q : Option Value → Heap → Prop} {T : State} {g g' : JFrame} (q : g = g') (k : Run K Q T g') : Run K Q T g := q ▸ k
theorem Run.mono {K : KT} {Q Q' : Option Value → Heap → Prop} {T : State} {g : JFrame} (k : Run K Q T g) (q : ∀ v h, Q v h → Q' v h) : Run K Q' T g := by
  obtain ⟨s₂, v, L, h1, h2, h3, h4, h5⟩ := k
  exact ⟨s₂, v, L, h1, h2, h3, q _ _ h4, h5⟩
/-- the words of a sheet -/
def Tb (ws : List Jvm.Cond) (a0 : Array Value) (Z : State) : Prop := ∀ d ∈ ws, d.before a0 Z = true
theorem Tb.get {ws : List Jvm.Cond} {a0 : Array Value} {Z : State} (hw : Tb ws a0 Z) (i : Nat) {d : Jvm.Cond} (h : ws[i]? = some d) : d.before a0 Z = true := hw d (List.mem_of_getElem? h)
/-- an instruction, its length, the pc behind -/
def Dc (bytes : ByteArray) (pc : Nat) (i : Instr) (n pc' : Nat) : Prop := decode bytes pc = .ok (i, n) ∧ pc + n = pc'
/-- a branch: the pc behind, the pc that it goes to -/
def Db (bytes : ByteArray) (pc : Nat) (i : Instr) (o : Int) (pc' pt : Nat) : Prop := decode bytes pc = .ok (i, 3) ∧ pc + 3 = pc' ∧ 0 ≤ (pc : Int) + o ∧ ((pc : Int) + o).toNat = pt
theorem ne_new {a b : Addr} {h : Heap} (ea : a = h.size) (q : b < h.size) : a ≠ b := by subst ea; exact Nat.ne_of_gt q
theorem fr_new {h0 h : Heap} {a : Addr} (ea : a = h.size) (q : h0.size ≤ h.size) : h0.size ≤ a := ea ▸ q
theorem leb {a b : Nat} (h : Nat.ble a b = true) : a ≤ b := Nat.le_of_ble_eq_true h
theorem ltb {a b : Nat} (h : Nat.ble (a + 1) b = true) : a < b := Nat.le_of_ble_eq_true h
section Rules
variable {K : KT} {Q : Option Value → Heap → Prop} {T : State} {h : Heap} {cl sl : Nat} {y : MethodName} {bytes : ByteArray} {mx : Nat} {rt : Option FieldType} {R : Room} {pc pc' pt : Nat} {L : Array Slot} {S : List Value}
theorem r_top {v v' : Int32} (q : v = v') (k : Run K Q T (mkF K.m pc L (.int v' :: S))) : Run K Q T (mkF K.m pc L (.int v :: S)) := q ▸ k
theorem r_topL {v v' : Int64} (q : v = v') (k : Run K Q T (mkF K.m pc L (.long v' :: S))) : Run K Q T (mkF K.m pc L (.long v :: S)) := q ▸ k
theorem Sd.ge (X : Sd K T h cl sl) : K.n0 ≤ h.size := by obtain ⟨_, _, _, q, _⟩ := X; exact q
theorem r_iloadN {i : Fin 4} {v : Int32} (X : Sd K T h cl sl) (cx : Cx K y bytes mx rt R) (hd : Dc bytes pc (.iload_n i) 1 pc') (hl : L[i.val]? = some (.val (.int v))) (k : Run K Q T (mkF K.m pc' L (.int v :: S))) : Run K Q T (mkF K.m pc L (S)) := by
  obtain ⟨locs, X0, -⟩ := X; obtain ⟨hx, -, hby, -⟩ := cx; obtain ⟨d, rfl⟩ := hd
  exact Run.st (fun t q => XS.iloadN X0.here hx rfl (hb hby d) hl q) k
theorem r_iload {i : Nat} {v : Int32} (X : Sd K T h cl sl) (cx : Cx K y bytes mx rt R) (hd : Dc bytes pc (.iload i) 2 pc') (hl : L[i]? = some (.val (.int v))) (k : Run K Q T (mkF K.m pc' L (.int v :: S))) : Run K Q T (mkF K.m pc L (S)) := by
  obtain ⟨locs, X0, -⟩ := X; obtain ⟨hx, -, hby, -⟩ := cx; obtain ⟨d, rfl⟩ := hd
  exact Run.st (fun t q => XS.iload X0.here hx rfl (hb hby d) hl q) k
theorem r_lloadN {i : Fin 4} {v : Int64} (X : Sd K T h cl sl) (cx : Cx K y bytes mx rt R) (hd : Dc bytes pc (.lload_n i) 1 pc') (hl : L[i.val]? = some (.val (.long v))) (k : Run K Q T (mkF K.m pc' L (.long v :: S))) : Run K Q T (mkF K.m pc L (S)) := by
  obtain ⟨locs, X0, -⟩ := X; obtain ⟨hx, -, hby, -⟩ := cx; obtain ⟨d, rfl⟩ := hd
  exact Run.st (fun t q => XT.lloadN X0.here hx rfl (hb hby d) hl q) k
theorem r_lload {i : Nat} {v : Int64} (X : Sd K T h cl sl) (cx : Cx K y bytes mx rt R) (hd : Dc bytes pc (.lload i) 2 pc') (hl : L[i]? = some (.val (.long v))) (k : Run K Q T (mkF K.m pc' L (.long v :: S))) : Run K Q T (mkF K.m pc L (S)) := by
  obtain ⟨locs, X0, -⟩ := X; obtain ⟨hx, -, hby, -⟩ := cx; obtain ⟨d, rfl⟩ := hd
  exact Run.st (fun t q => XT.lload X0.here hx rfl (hb hby d) hl q) k
theorem r_aloadN {i : Fin 4} {v : Addr} (X : Sd K T h cl sl) (cx : Cx K y bytes mx rt R) (hd : Dc bytes pc (.aload_n i) 1 pc') (hl : L[i.val]? = some (.val (.ref v))) (k : Run K Q T (mkF K.m pc' L (.ref v :: S))) : Run K Q T (mkF K.m pc L (S)) := by
  obtain ⟨locs, X0, -⟩ := X; obtain ⟨hx, -, hby, -⟩ := cx; obtain ⟨d, rfl⟩ := hd
  exact Run.st (fun t q => XS.aloadN X0.here hx rfl (hb hby d) hl rfl q) k
theorem r_aload {i : Nat} {v : Addr} (X : Sd K T h cl sl) (cx : Cx K y bytes mx rt R) (hd : Dc bytes pc (.aload i) 2 pc') (hl : L[i]? = some (.val (.ref v))) (k : Run K Q T (mkF K.m pc' L (.ref v :: S))) : Run K Q T (mkF K.m pc L (S)) := by
  obtain ⟨locs, X0, -⟩ := X; obtain ⟨hx, -, hby, -⟩ := cx; obtain ⟨d, rfl⟩ := hd
  exact Run.st (fun t q => XS.aload X0.here hx rfl (hb hby d) hl rfl q) k
theorem r_iconst {i : Int} (v : Int32) (X : Sd K T h cl sl) (cx : Cx K y bytes mx rt R) (hd : Dc bytes pc (.iconst i) 1 pc') (hv : Int32.ofInt i = v) (k : Run K Q T (mkF K.m pc' L (.int v :: S))) : Run K Q T (mkF K.m pc L (S)) := by
  obtain ⟨locs, X0, -⟩ := X; obtain ⟨hx, -, hby, -⟩ := cx; obtain ⟨d, rfl⟩ := hd
  exact Run.st (fun t q => XT.iconstV X0.here hx rfl v (hb hby d) hv q) k
theorem r_bipush {i : Int} (v : Int32) (X : Sd K T h cl sl) (cx : Cx K y bytes mx rt R) (hd : Dc bytes pc (.bipush i) 2 pc') (hv : (Int8.ofInt i).toInt32 = v) (k : Run K Q T (mkF K.m pc' L (.int v :: S))) : Run K Q T (mkF K.m pc L (S)) := by
  obtain ⟨locs, X0, -⟩ := X; obtain ⟨hx, -, hby, -⟩ := cx; obtain ⟨d, rfl⟩ := hd
  exact Run.st (fun t q => XT.bipushV X0.here hx rfl v (hb hby d) hv q) k
theorem r_sipush {i : Int} (v : Int32) (X : Sd K T h cl sl) (cx : Cx K y bytes mx rt R) (hd : Dc bytes pc (.sipush i) 3 pc') (hv : (Int16.ofInt i).toInt32 = v) (k : Run K Q T (mkF K.m pc' L (.int v :: S))) : Run K Q T (mkF K.m pc L (S)) := by
  obtain ⟨locs, X0, -⟩ := X; obtain ⟨hx, -, hby, -⟩ := cx; obtain ⟨d, rfl⟩ := hd
  exact Run.st (fun t q => XT.sipushV X0.here hx rfl v (hb hby d) hv q) k
theorem r_lconst {i : Fin 2} (v : Int64) (X : Sd K T h cl sl) (cx : Cx K y bytes mx rt R) (hd : Dc bytes pc (.lconst i) 1 pc') (hv : Int64.ofNat i = v) (k : Run K Q T (mkF K.m pc' L (.long v :: S))) : Run K Q T (mkF K.m pc L (S)) := by
  obtain ⟨locs, X0, -⟩ := X; obtain ⟨hx, -, hby, -⟩ := cx; obtain ⟨d, rfl⟩ := hd
  exact Run.st (fun t q => XT.lconstV X0.here hx rfl v (hb hby d) hv q) k
theorem r_iadd {a b : Int32} (X : Sd K T h cl sl) (cx : Cx K y bytes mx rt R) (hd : Dc bytes pc .iadd 1 pc') (k : Run K Q T (mkF K.m pc' L (.int (a + b) :: S))) : Run K Q T (mkF K.m pc L (.int b :: .int a :: S)) := by
  obtain ⟨locs, X0, -⟩ := X; obtain ⟨hx, -, hby, -⟩ := cx; obtain ⟨d, rfl⟩ := hd
  exact Run.st (fun t q => XS.iadd X0.here hx rfl (hb hby d) rfl q) k
theorem r_isub {a b : Int32} (X : Sd K T h cl sl) (cx : Cx K y bytes mx rt R) (hd : Dc bytes pc .isub 1 pc') (k : Run K Q T (mkF K.m pc' L (.int (a - b) :: S))) : Run K Q T (mkF K.m pc L (.int b :: .int a :: S)) := by
  obtain ⟨locs, X0, -⟩ := X; obtain ⟨hx, -, hby, -⟩ := cx; obtain ⟨d, rfl⟩ := hd
  exact Run.st (fun t q => XS.isub X0.here hx rfl (hb hby d) rfl q) k
theorem r_imul {a b : Int32} (X : Sd K T h cl sl) (cx : Cx K y bytes mx rt R) (hd : Dc bytes pc .imul 1 pc') (k : Run K Q T (mkF K.m pc' L (.int (a * b) :: S))) : Run K Q T (mkF K.m pc L (.int b :: .int a :: S)) := by
  obtain ⟨locs, X0, -⟩ := X; obtain ⟨hx, -, hby, -⟩ := cx; obtain ⟨d, rfl⟩ := hd
  exact Run.st (fun t q => XS.imul X0.here hx rfl (hb hby d) rfl q) k
theorem r_iand {a b : Int32} (X : Sd K T h cl sl) (cx : Cx K y bytes mx rt R) (hd : Dc bytes pc .iand 1 pc') (k : Run K Q T (mkF K.m pc' L (.int (a &&& b) :: S))) : Run K Q T (mkF K.m pc L (.int b :: .int a :: S)) := by
  obtain ⟨locs, X0, -⟩ := X; obtain ⟨hx, -, hby, -⟩ := cx; obtain ⟨d, rfl⟩ := hd
  exact Run.st (fun t q => XS.iand X0.here hx rfl (hb hby d) rfl q) k
theorem r_ior {a b : Int32} (X : Sd K T h cl sl) (cx : Cx K y bytes mx rt R) (hd : Dc bytes pc .ior 1 pc') (k : Run K Q T (mkF K.m pc' L (.int (a ||| b) :: S))) : Run K Q T (mkF K.m pc L (.int b :: .int a :: S)) := by
  obtain ⟨locs, X0, -⟩ := X; obtain ⟨hx, -, hby, -⟩ := cx; obtain ⟨d, rfl⟩ := hd
  exact Run.st (fun t q => XT.ior X0.here hx rfl (hb hby d) rfl q) k
theorem r_ixor {a b : Int32} (X : Sd K T h cl sl) (cx : Cx K y bytes mx rt R) (hd : Dc bytes pc .ixor 1 pc') (k : Run K Q T (mkF K.m pc' L (.int (a ^^^ b) :: S))) : Run K Q T (mkF K.m pc L (.int b :: .int a :: S)) := by
  obtain ⟨locs, X0, -⟩ := X; obtain ⟨hx, -, hby, -⟩ := cx; obtain ⟨d, rfl⟩ := hd
  exact Run.st (fun t q => XT.ixor X0.here hx rfl (hb hby d) rfl q) k
theorem r_ishl {a b : Int32} (X : Sd K T h cl sl) (cx : Cx K y bytes mx rt R) (hd : Dc bytes pc .ishl 1 pc') (k : Run K Q T (mkF K.m pc' L (.int (a <<< (b &&& 31)) :: S))) : Run K Q T (mkF K.m pc L (.int b :: .int a :: S)) := by
  obtain ⟨locs, X0, -⟩ := X; obtain ⟨hx, -, hby, -⟩ := cx; obtain ⟨d, rfl⟩ := hd
  exact Run.st (fun t q => XT.ishl X0.here hx rfl (hb hby d) rfl q) k
theorem r_ishr {a b : Int32} (X : Sd K T h cl sl) (cx : Cx K y bytes mx rt R) (hd : Dc bytes pc .ishr 1 pc') (k : Run K Q T (mkF K.m pc' L (.int (a >>> (b &&& 31)) :: S))) : Run K Q T (mkF K.m pc L (.int b :: .int a :: S)) := by
  obtain ⟨locs, X0, -⟩ := X; obtain ⟨hx, -, hby, -⟩ := cx; obtain ⟨d, rfl⟩ := hd
  exact Run.st (fun t q => XT.ishr X0.here hx rfl (hb hby d) rfl q) k
theorem r_iushr {a b : Int32} (X : Sd K T h cl sl) (cx : Cx K y bytes mx rt R) (hd : Dc bytes pc .iushr 1 pc') (k : Run K Q T (mkF K.m pc' L (.int (XT.ushr a b) :: S))) : Run K Q T (mkF K.m pc L (.int b :: .int a :: S)) := by
  obtain ⟨locs, X0, -⟩ := X; obtain ⟨hx, -, hby, -⟩ := cx; obtain ⟨d, rfl⟩ := hd
  exact Run.st (fun t q => XT.iushr X0.here hx rfl (hb hby d) rfl q) k
theorem r_idiv {a b : Int32} (X : Sd K T h cl sl) (cx : Cx K y bytes mx rt R) (hd : Dc bytes pc .idiv 1 pc') (hne : b ≠ 0) (k : Run K Q T (mkF K.m pc' L (.int (a / b) :: S))) : Run K Q T (mkF K.m pc L (.int b :: .int a :: S)) := by
  obtain ⟨locs, X0, -⟩ := X; obtain ⟨hx, -, hby, -⟩ := cx; obtain ⟨d, rfl⟩ := hd
  exact Run.st (fun t q => XS.idiv X0.here hx rfl (hb hby d) rfl hne q) k
theorem r_irem {a b : Int32} (X : Sd K T h cl sl) (cx : Cx K y bytes mx rt R) (hd : Dc bytes pc .irem 1 pc') (hne : b ≠ 0) (k : Run K Q T (mkF K.m pc' L (.int (a - (a / b) * b) :: S))) : Run K Q T (mkF K.m pc L (.int b :: .int a :: S)) := by
  obtain ⟨locs, X0, -⟩ := X; obtain ⟨hx, -, hby, -⟩ := cx; obtain ⟨d, rfl⟩ := hd
  exact Run.st (fun t q => XS.irem X0.here hx rfl (hb hby d) rfl hne q) k
theorem r_ladd {a b : Int64} (X : Sd K T h cl sl) (cx : Cx K y bytes mx rt R) (hd : Dc bytes pc .ladd 1 pc') (k : Run K Q T (mkF K.m pc' L (.long (a + b) :: S))) : Run K Q T (mkF K.m pc L (.long b :: .long a :: S)) := by
  obtain ⟨locs, X0, -⟩ := X; obtain ⟨hx, -, hby, -⟩ := cx; obtain ⟨d, rfl⟩ := hd
  exact Run.st (fun t q => XT.ladd X0.here hx rfl (hb hby d) rfl q) k
theorem r_lsub {a b : Int64} (X : Sd K T h cl sl) (cx : Cx K y bytes mx rt R) (hd : Dc bytes pc .lsub 1 pc') (k : Run K Q T (mkF K.m pc' L (.long (a - b) :: S))) : Run K Q T (mkF K.m pc L (.long b :: .long a :: S)) := by
  obtain ⟨locs, X0, -⟩ := X; obtain ⟨hx, -, hby, -⟩ := cx; obtain ⟨d, rfl⟩ := hd
  exact Run.st (fun t q => XT.lsub X0.here hx rfl (hb hby d) rfl q) k
theorem r_lmul {a b : Int64} (X : Sd K T h cl sl) (cx : Cx K y bytes mx rt R) (hd : Dc bytes pc .lmul 1 pc') (k : Run K Q T (mkF K.m pc' L (.long (a * b) :: S))) : Run K Q T (mkF K.m pc L (.long b :: .long a :: S)) := by
  obtain ⟨locs, X0, -⟩ := X; obtain ⟨hx, -, hby, -⟩ := cx; obtain ⟨d, rfl⟩ := hd
  exact Run.st (fun t q => XT.lmul X0.here hx rfl (hb hby d) rfl q) k
theorem r_land {a b : Int64} (X : Sd K T h cl sl) (cx : Cx K y bytes mx rt R) (hd : Dc bytes pc .land 1 pc') (k : Run K Q T (mkF K.m pc' L (.long (a &&& b) :: S))) : Run K Q T (mkF K.m pc L (.long b :: .long a :: S)) := by
  obtain ⟨locs, X0, -⟩ := X; obtain ⟨hx, -, hby, -⟩ := cx; obtain ⟨d, rfl⟩ := hd
  exact Run.st (fun t q => XT.land X0.here hx rfl (hb hby d) rfl q) k
theorem r_lor {a b : Int64} (X : Sd K T h cl sl) (cx : Cx K y bytes mx rt R) (hd : Dc bytes pc .lor 1 pc') (k : Run K Q T (mkF K.m pc' L (.long (a ||| b) :: S))) : Run K Q T (mkF K.m pc L (.long b :: .long a :: S)) := by
  obtain ⟨locs, X0, -⟩ := X; obtain ⟨hx, -, hby, -⟩ := cx; obtain ⟨d, rfl⟩ := hd
  exact Run.st (fun t q => XT.lor X0.here hx rfl (hb hby d) rfl q) k
theorem r_lxor {a b : Int64} (X : Sd K T h cl sl) (cx : Cx K y bytes mx rt R) (hd : Dc bytes pc .lxor 1 pc') (k : Run K Q T (mkF K.m pc' L (.long (a ^^^ b) :: S))) : Run K Q T (mkF K.m pc L (.long b :: .long a :: S)) := by
  obtain ⟨locs, X0, -⟩ := X; obtain ⟨hx, -, hby, -⟩ := cx; obtain ⟨d, rfl⟩ := hd
  exact Run.st (fun t q => XT.lxor X0.here hx rfl (hb hby d) rfl q) k
theorem r_ldiv {a b : Int64} (X : Sd K T h cl sl) (cx : Cx K y bytes mx rt R) (hd : Dc bytes pc .ldiv 1 pc') (hne : b ≠ 0) (k : Run K Q T (mkF K.m pc' L (.long (a / b) :: S))) : Run K Q T (mkF K.m pc L (.long b :: .long a :: S)) := by
  obtain ⟨locs, X0, -⟩ := X; obtain ⟨hx, -, hby, -⟩ := cx; obtain ⟨d, rfl⟩ := hd
  exact Run.st (fun t q => XT.ldiv X0.here hx rfl (hb hby d) rfl hne q) k
theorem r_lrem {a b : Int64} (X : Sd K T h cl sl) (cx : Cx K y bytes mx rt R) (hd : Dc bytes pc .lrem 1 pc') (hne : b ≠ 0) (k : Run K Q T (mkF K.m pc' L (.long (a - (a / b) * b) :: S))) : Run K Q T (mkF K.m pc L (.long b :: .long a :: S)) := by
  obtain ⟨locs, X0, -⟩ := X; obtain ⟨hx, -, hby, -⟩ := cx; obtain ⟨d, rfl⟩ := hd
  exact Run.st (fun t q => XT.lrem X0.here hx rfl (hb hby d) rfl hne q) k
theorem r_lshl {a : Int64} {b : Int32} (X : Sd K T h cl sl) (cx : Cx K y bytes mx rt R) (hd : Dc bytes pc .lshl 1 pc') (k : Run K Q T (mkF K.m pc' L (.long (a <<< (b.toInt64 &&& 63)) :: S))) : Run K Q T (mkF K.m pc L (.int b :: .long a :: S)) := by
  obtain ⟨locs, X0, -⟩ := X; obtain ⟨hx, -, hby, -⟩ := cx; obtain ⟨d, rfl⟩ := hd
  exact Run.st (fun t q => XT.lshl X0.here hx rfl (hb hby d) rfl q) k
theorem r_lshr {a : Int64} {b : Int32} (X : Sd K T h cl sl) (cx : Cx K y bytes mx rt R) (hd : Dc bytes pc .lshr 1 pc') (k : Run K Q T (mkF K.m pc' L (.long (a >>> (b.toInt64 &&& 63)) :: S))) : Run K Q T (mkF K.m pc L (.int b :: .long a :: S)) := by
  obtain ⟨locs, X0, -⟩ := X; obtain ⟨hx, -, hby, -⟩ := cx; obtain ⟨d, rfl⟩ := hd
  exact Run.st (fun t q => XT.lshr X0.here hx rfl (hb hby d) rfl q) k
theorem r_lushr {a : Int64} {b : Int32} (X : Sd K T h cl sl) (cx : Cx K y bytes mx rt R) (hd : Dc bytes pc .lushr 1 pc') (k : Run K Q T (mkF K.m pc' L (.long (XT.ushrL a b) :: S))) : Run K Q T (mkF K.m pc L (.int b :: .long a :: S)) := by
  obtain ⟨locs, X0, -⟩ := X; obtain ⟨hx, -, hby, -⟩ := cx; obtain ⟨d, rfl⟩ := hd
  exact Run.st (fun t q => XT.lushr X0.here hx rfl (hb hby d) rfl q) k
theorem r_ineg {a : Int32} (X : Sd K T h cl sl) (cx : Cx K y bytes mx rt R) (hd : Dc bytes pc .ineg 1 pc') (k : Run K Q T (mkF K.m pc' L (.int (-a) :: S))) : Run K Q T (mkF K.m pc L (.int a :: S)) := by
  obtain ⟨locs, X0, -⟩ := X; obtain ⟨hx, -, hby, -⟩ := cx; obtain ⟨d, rfl⟩ := hd
  exact Run.st (fun t q => XS.ineg X0.here hx rfl (hb hby d) rfl q) k
theorem r_i2l {a : Int32} (X : Sd K T h cl sl) (cx : Cx K y bytes mx rt R) (hd : Dc bytes pc .i2l 1 pc') (k : Run K Q T (mkF K.m pc' L (.long a.toInt64 :: S))) : Run K Q T (mkF K.m pc L (.int a :: S)) := by
  obtain ⟨locs, X0, -⟩ := X; obtain ⟨hx, -, hby, -⟩ := cx; obtain ⟨d, rfl⟩ := hd
  exact Run.st (fun t q => XT.i2l X0.here hx rfl (hb hby d) rfl q) k
theorem r_l2i {a : Int64} (X : Sd K T h cl sl) (cx : Cx K y bytes mx rt R) (hd : Dc bytes pc .l2i 1 pc') (k : Run K Q T (mkF K.m pc' L (.int a.toInt32 :: S))) : Run K Q T (mkF K.m pc L (.long a :: S)) := by
  obtain ⟨locs, X0, -⟩ := X; obtain ⟨hx, -, hby, -⟩ := cx; obtain ⟨d, rfl⟩ := hd
  exact Run.st (fun t q => XT.l2i X0.here hx rfl (hb hby d) rfl q) k
theorem r_i2b {a : Int32} (X : Sd K T h cl sl) (cx : Cx K y bytes mx rt R) (hd : Dc bytes pc .i2b 1 pc') (k : Run K Q T (mkF K.m pc' L (.int a.toInt8.toInt32 :: S))) : Run K Q T (mkF K.m pc L (.int a :: S)) := by
  obtain ⟨locs, X0, -⟩ := X; obtain ⟨hx, -, hby, -⟩ := cx; obtain ⟨d, rfl⟩ := hd
  exact Run.st (fun t q => XT.i2b X0.here hx rfl (hb hby d) rfl q) k
theorem r_i2s {a : Int32} (X : Sd K T h cl sl) (cx : Cx K y bytes mx rt R) (hd : Dc bytes pc .i2s 1 pc') (k : Run K Q T (mkF K.m pc' L (.int a.toInt16.toInt32 :: S))) : Run K Q T (mkF K.m pc L (.int a :: S)) := by
  obtain ⟨locs, X0, -⟩ := X; obtain ⟨hx, -, hby, -⟩ := cx; obtain ⟨d, rfl⟩ := hd
  exact Run.st (fun t q => XT.i2s X0.here hx rfl (hb hby d) rfl q) k
theorem r_lcmp {a b : Int64} (X : Sd K T h cl sl) (cx : Cx K y bytes mx rt R) (hd : Dc bytes pc .lcmp 1 pc') (k : Run K Q T (mkF K.m pc' L (.int (XT.cmpL a b) :: S))) : Run K Q T (mkF K.m pc L (.long b :: .long a :: S)) := by
  obtain ⟨locs, X0, -⟩ := X; obtain ⟨hx, -, hby, -⟩ := cx; obtain ⟨d, rfl⟩ := hd
  exact Run.st (fun t q => XT.lcmp X0.here hx rfl (hb hby d) rfl q) k
theorem r_dup {v : Value} (X : Sd K T h cl sl) (cx : Cx K y bytes mx rt R) (hd : Dc bytes pc .dup 1 pc') (hc : v.category = 1) (k : Run K Q T (mkF K.m pc' L (v :: v :: S))) : Run K Q T (mkF K.m pc L (v :: S)) := by
  obtain ⟨locs, X0, -⟩ := X; obtain ⟨hx, -, hby, -⟩ := cx; obtain ⟨d, rfl⟩ := hd
  exact Run.st (fun t q => XS.dup X0.here hx rfl (hb hby d) rfl hc q) k
theorem r_pop {v : Value} (X : Sd K T h cl sl) (cx : Cx K y bytes mx rt R) (hd : Dc bytes pc .pop 1 pc') (hc : v.category = 1) (k : Run K Q T (mkF K.m pc' L (S))) : Run K Q T (mkF K.m pc L (v :: S)) := by
  obtain ⟨locs, X0, -⟩ := X; obtain ⟨hx, -, hby, -⟩ := cx; obtain ⟨d, rfl⟩ := hd
  exact Run.st (fun t q => XT.pop X0.here hx rfl (hb hby d) rfl hc q) k
theorem r_dup2 {v w : Value} (X : Sd K T h cl sl) (cx : Cx K y bytes mx rt R) (hd : Dc bytes pc .dup2 1 pc') (hc : v.category = 1) (hc2 : w.category = 1) (k : Run K Q T (mkF K.m pc' L (v :: w :: v :: w :: S))) : Run K Q T (mkF K.m pc L (v :: w :: S)) := by
  obtain ⟨locs, X0, -⟩ := X; obtain ⟨hx, -, hby, -⟩ := cx; obtain ⟨d, rfl⟩ := hd
  exact Run.st (fun t q => XT.dup2 X0.here hx rfl (hb hby d) rfl hc hc2 q) k
theorem r_dup_x1 {v w : Value} (X : Sd K T h cl sl) (cx : Cx K y bytes mx rt R) (hd : Dc bytes pc .dup_x1 1 pc') (hc : v.category = 1) (hc2 : w.category = 1) (k : Run K Q T (mkF K.m pc' L (v :: w :: v :: S))) : Run K Q T (mkF K.m pc L (v :: w :: S)) := by
  obtain ⟨locs, X0, -⟩ := X; obtain ⟨hx, -, hby, -⟩ := cx; obtain ⟨d, rfl⟩ := hd
  exact Run.st (fun t q => XT.dupX1 X0.here hx rfl (hb hby d) rfl hc hc2 q) k
theorem r_istoreN {i : Fin 4} {x : Int32} (L' : Int32 → Array Slot) (X : Sd K T h cl sl) (cx : Cx K y bytes mx rt R) (hd : Dc bytes pc (.istore_n i) 1 pc') (hl : ∀ v, storeLocals L i.val (.int v) = some (L' v)) (k : ∀ v, v = x → Run K Q T (mkF K.m pc' (L' v) S)) : Run K Q T (mkF K.m pc L (.int x :: S)) := by
  obtain ⟨locs, X0, -⟩ := X; obtain ⟨hx, -, hby, -⟩ := cx; obtain ⟨d, rfl⟩ := hd
  exact Run.st (fun t q => XS.istoreN X0.here hx rfl (hb hby d) rfl (hl x) q) (k x rfl)
theorem r_istore {i : Nat} {x : Int32} (L' : Int32 → Array Slot) (X : Sd K T h cl sl) (cx : Cx K y bytes mx rt R) (hd : Dc bytes pc (.istore i) 2 pc') (hl : ∀ v, storeLocals L i (.int v) = some (L' v)) (k : ∀ v, v = x → Run K Q T (mkF K.m pc' (L' v) S)) : Run K Q T (mkF K.m pc L (.int x :: S)) := by
  obtain ⟨locs, X0, -⟩ := X; obtain ⟨hx, -, hby, -⟩ := cx; obtain ⟨d, rfl⟩ := hd
  exact Run.st (fun t q => XS.istore X0.here hx rfl (hb hby d) rfl (hl x) q) (k x rfl)
theorem r_lstoreN {i : Fin 4} {x : Int64} (L' : Int64 → Array Slot) (X : Sd K T h cl sl) (cx : Cx K y bytes mx rt R) (hd : Dc bytes pc (.lstore_n i) 1 pc') (hl : ∀ v, storeLocals L i.val (.long v) = some (L' v)) (k : ∀ v, v = x → Run K Q T (mkF K.m pc' (L' v) S)) : Run K Q T (mkF K.m pc L (.long x :: S)) := by
  obtain ⟨locs, X0, -⟩ := X; obtain ⟨hx, -, hby, -⟩ := cx; obtain ⟨d, rfl⟩ := hd
  exact Run.st (fun t q => XT.lstoreN X0.here hx rfl (hb hby d) rfl (hl x) q) (k x rfl)
theorem r_lstore {i : Nat} {x : Int64} (L' : Int64 → Array Slot) (X : Sd K T h cl sl) (cx : Cx K y bytes mx rt R) (hd : Dc bytes pc (.lstore i) 2 pc') (hl : ∀ v, storeLocals L i (.long v) = some (L' v)) (k : ∀ v, v = x → Run K Q T (mkF K.m pc' (L' v) S)) : Run K Q T (mkF K.m pc L (.long x :: S)) := by
  obtain ⟨locs, X0, -⟩ := X; obtain ⟨hx, -, hby, -⟩ := cx; obtain ⟨d, rfl⟩ := hd
  exact Run.st (fun t q => XT.lstore X0.here hx rfl (hb hby d) rfl (hl x) q) (k x rfl)
theorem r_astoreN {i : Fin 4} {x : Addr} (L' : Array Slot) (X : Sd K T h cl sl) (cx : Cx K y bytes mx rt R) (hd : Dc bytes pc (.astore_n i) 1 pc') (hl : storeLocals L i.val (.ref x) = some L') (k : Run K Q T (mkF K.m pc' L' S)) : Run K Q T (mkF K.m pc L (.ref x :: S)) := by
  obtain ⟨locs, X0, -⟩ := X; obtain ⟨hx, -, hby, -⟩ := cx; obtain ⟨d, rfl⟩ := hd
  exact Run.st (fun t q => XS.astoreN X0.here hx rfl (hb hby d) rfl rfl hl q) k
theorem r_astore {i : Nat} {x : Addr} (L' : Array Slot) (X : Sd K T h cl sl) (cx : Cx K y bytes mx rt R) (hd : Dc bytes pc (.astore i) 2 pc') (hl : storeLocals L i (.ref x) = some L') (k : Run K Q T (mkF K.m pc' L' S)) : Run K Q T (mkF K.m pc L (.ref x :: S)) := by
  obtain ⟨locs, X0, -⟩ := X; obtain ⟨hx, -, hby, -⟩ := cx; obtain ⟨d, rfl⟩ := hd
  exact Run.st (fun t q => XS.astore X0.here hx rfl (hb hby d) rfl rfl hl q) k
theorem r_iinc {i : Nat} {cst : Int} {x : Int32} (w : Int32) (L' : Int32 → Array Slot) (X : Sd K T h cl sl) (cx : Cx K y bytes mx rt R) (hd : Dc bytes pc (.iinc i cst) 3 pc') (hv : Int32.ofInt cst = w) (ho : L[i]? = some (.val (.int x))) (hl : ∀ v, storeLocals L i (.int v) = some (L' v)) (k : ∀ v, v = x + w → Run K Q T (mkF K.m pc' (L' v) S)) : Run K Q T (mkF K.m pc L S) := by
  obtain ⟨locs, X0, -⟩ := X; obtain ⟨hx, -, hby, -⟩ := cx; obtain ⟨d, rfl⟩ := hd
  exact Run.st (fun t q => XT.iincV X0.here hx rfl w (hb hby d) hv ho (hl _) q) (k _ rfl)
theorem r_goto {o : Int} (X : Sd K T h cl sl) (cx : Cx K y bytes mx rt R) (hd : Db bytes pc (.goto o) o pc' pt) (k : Run K Q T (mkF K.m pt L S)) : Run K Q T (mkF K.m pc L S) := by
  obtain ⟨locs, X0, -⟩ := X; obtain ⟨hx, -, hby, -⟩ := cx; obtain ⟨d, -, ho, hp⟩ := hd
  exact Run.st (fun t q => XS.goto X0.here hx rfl (pc0 := pc) rfl (hb hby d) ho hp q) k
theorem r_icmpeq {o : Int} {a b : Int32} (X : Sd K T h cl sl) (cx : Cx K y bytes mx rt R) (hd : Db bytes pc (.if_icmp .eq o) o pc' pt) (k1 : a = b → Run K Q T (mkF K.m pt L S)) (k2 : ¬ a = b → Run K Q T (mkF K.m pc' L S)) : Run K Q T (mkF K.m pc L (.int b :: .int a :: S)) := by
  obtain ⟨locs, X0, -⟩ := X; obtain ⟨hx, -, hby, -⟩ := cx; obtain ⟨d, rfl, ho, hp⟩ := hd
  by_cases q : a = b
  · exact Run.st (fun t u => XS.icmpYes X0.here hx rfl (pc0 := pc) rfl (hb hby d) rfl (XT.ii_eq_t q) ho hp u) (k1 q)
  · exact Run.st (fun t u => XS.icmpNo X0.here hx rfl (hb hby d) rfl (XT.ii_eq_f q) u) (k2 q)
theorem r_ifeq {o : Int} {a : Int32} (X : Sd K T h cl sl) (cx : Cx K y bytes mx rt R) (hd : Db bytes pc (.ifCond .eq o) o pc' pt) (k1 : a = 0 → Run K Q T (mkF K.m pt L S)) (k2 : ¬ a = 0 → Run K Q T (mkF K.m pc' L S)) : Run K Q T (mkF K.m pc L (.int a :: S)) := by
  obtain ⟨locs, X0, -⟩ := X; obtain ⟨hx, -, hby, -⟩ := cx; obtain ⟨d, rfl, ho, hp⟩ := hd
  by_cases q : a = 0
  · exact Run.st (fun t u => XS.ifYes X0.here hx rfl (pc0 := pc) rfl (hb hby d) rfl (XT.i0_eq_t q) ho hp u) (k1 q)
  · exact Run.st (fun t u => XS.ifNo X0.here hx rfl (hb hby d) rfl (XT.i0_eq_f q) u) (k2 q)
theorem r_lcmpeq {o : Int} {a b : Int64} (X : Sd K T h cl sl) (cx : Cx K y bytes mx rt R) (hd : Db bytes pc (.ifCond .eq o) o pc' pt) (k1 : a = b → Run K Q T (mkF K.m pt L S)) (k2 : ¬ a = b → Run K Q T (mkF K.m pc' L S)) : Run K Q T (mkF K.m pc L (.int (XT.cmpL a b) :: S)) := by
  obtain ⟨locs, X0, -⟩ := X; obtain ⟨hx, -, hby, -⟩ := cx; obtain ⟨d, rfl, ho, hp⟩ := hd
  by_cases q : a = b
  · exact Run.st (fun t u => XS.ifYes X0.here hx rfl (pc0 := pc) rfl (hb hby d) rfl (XT.ll_eq_t q) ho hp u) (k1 q)
  · exact Run.st (fun t u => XS.ifNo X0.here hx rfl (hb hby d) rfl (XT.ll_eq_f q) u) (k2 q)
theorem r_icmpne {o : Int} {a b : Int32} (X : Sd K T h cl sl) (cx : Cx K y bytes mx rt R) (hd : Db bytes pc (.if_icmp .ne o) o pc' pt) (k1 : ¬ a = b → Run K Q T (mkF K.m pt L S)) (k2 : a = b → Run K Q T (mkF K.m pc' L S)) : Run K Q T (mkF K.m pc L (.int b :: .int a :: S)) := by
  obtain ⟨locs, X0, -⟩ := X; obtain ⟨hx, -, hby, -⟩ := cx; obtain ⟨d, rfl, ho, hp⟩ := hd
  by_cases q : a = b
  · exact Run.st (fun t u => XS.icmpNo X0.here hx rfl (hb hby d) rfl (XT.ii_ne_f q) u) (k2 q)
  · exact Run.st (fun t u => XS.icmpYes X0.here hx rfl (pc0 := pc) rfl (hb hby d) rfl (XT.ii_ne_t q) ho hp u) (k1 q)
theorem r_ifne {o : Int} {a : Int32} (X : Sd K T h cl sl) (cx : Cx K y bytes mx rt R) (hd : Db bytes pc (.ifCond .ne o) o pc' pt) (k1 : ¬ a = 0 → Run K Q T (mkF K.m pt L S)) (k2 : a = 0 → Run K Q T (mkF K.m pc' L S)) : Run K Q T (mkF K.m pc L (.int a :: S)) := by
  obtain ⟨locs, X0, -⟩ := X; obtain ⟨hx, -, hby, -⟩ := cx; obtain ⟨d, rfl, ho, hp⟩ := hd
  by_cases q : a = 0
  · exact Run.st (fun t u => XS.ifNo X0.here hx rfl (hb hby d) rfl (XT.i0_ne_f q) u) (k2 q)
  · exact Run.st (fun t u => XS.ifYes X0.here hx rfl (pc0 := pc) rfl (hb hby d) rfl (XT.i0_ne_t q) ho hp u) (k1 q)
theorem r_lcmpne {o : Int} {a b : Int64} (X : Sd K T h cl sl) (cx : Cx K y bytes mx rt R) (hd : Db bytes pc (.ifCond .ne o) o pc' pt) (k1 : ¬ a = b → Run K Q T (mkF K.m pt L S)) (k2 : a = b → Run K Q T (mkF K.m pc' L S)) : Run K Q T (mkF K.m pc L (.int (XT.cmpL a b) :: S)) := by
  obtain ⟨locs, X0, -⟩ := X; obtain ⟨hx, -, hby, -⟩ := cx; obtain ⟨d, rfl, ho, hp⟩ := hd
  by_cases q : a = b
  · exact Run.st (fun t u => XS.ifNo X0.here hx rfl (hb hby d) rfl (XT.ll_ne_f q) u) (k2 q)
  · exact Run.st (fun t u => XS.ifYes X0.here hx rfl (pc0 := pc) rfl (hb hby d) rfl (XT.ll_ne_t q) ho hp u) (k1 q)
theorem r_icmplt {o : Int} {a b : Int32} (X : Sd K T h cl sl) (cx : Cx K y bytes mx rt R) (hd : Db bytes pc (.if_icmp .lt o) o pc' pt) (k1 : a < b → Run K Q T (mkF K.m pt L S)) (k2 : ¬ a < b → Run K Q T (mkF K.m pc' L S)) : Run K Q T (mkF K.m pc L (.int b :: .int a :: S)) := by
  obtain ⟨locs, X0, -⟩ := X; obtain ⟨hx, -, hby, -⟩ := cx; obtain ⟨d, rfl, ho, hp⟩ := hd
  by_cases q : a < b
  · exact Run.st (fun t u => XS.icmpYes X0.here hx rfl (pc0 := pc) rfl (hb hby d) rfl (XT.ii_lt_t q) ho hp u) (k1 q)
  · exact Run.st (fun t u => XS.icmpNo X0.here hx rfl (hb hby d) rfl (XT.ii_lt_f q) u) (k2 q)
theorem r_iflt {o : Int} {a : Int32} (X : Sd K T h cl sl) (cx : Cx K y bytes mx rt R) (hd : Db bytes pc (.ifCond .lt o) o pc' pt) (k1 : a < 0 → Run K Q T (mkF K.m pt L S)) (k2 : ¬ a < 0 → Run K Q T (mkF K.m pc' L S)) : Run K Q T (mkF K.m pc L (.int a :: S)) := by
  obtain ⟨locs, X0, -⟩ := X; obtain ⟨hx, -, hby, -⟩ := cx; obtain ⟨d, rfl, ho, hp⟩ := hd
  by_cases q : a < 0
  · exact Run.st (fun t u => XS.ifYes X0.here hx rfl (pc0 := pc) rfl (hb hby d) rfl (XT.i0_lt_t q) ho hp u) (k1 q)
  · exact Run.st (fun t u => XS.ifNo X0.here hx rfl (hb hby d) rfl (XT.i0_lt_f q) u) (k2 q)
theorem r_lcmplt {o : Int} {a b : Int64} (X : Sd K T h cl sl) (cx : Cx K y bytes mx rt R) (hd : Db bytes pc (.ifCond .lt o) o pc' pt) (k1 : a < b → Run K Q T (mkF K.m pt L S)) (k2 : ¬ a < b → Run K Q T (mkF K.m pc' L S)) : Run K Q T (mkF K.m pc L (.int (XT.cmpL a b) :: S)) := by
  obtain ⟨locs, X0, -⟩ := X; obtain ⟨hx, -, hby, -⟩ := cx; obtain ⟨d, rfl, ho, hp⟩ := hd
  by_cases q : a < b
  · exact Run.st (fun t u => XS.ifYes X0.here hx rfl (pc0 := pc) rfl (hb hby d) rfl (XT.ll_lt_t q) ho hp u) (k1 q)
  · exact Run.st (fun t u => XS.ifNo X0.here hx rfl (hb hby d) rfl (XT.ll_lt_f q) u) (k2 q)
theorem r_icmpge {o : Int} {a b : Int32} (X : Sd K T h cl sl) (cx : Cx K y bytes mx rt R) (hd : Db bytes pc (.if_icmp .ge o) o pc' pt) (k1 : ¬ a < b → Run K Q T (mkF K.m pt L S)) (k2 : a < b → Run K Q T (mkF K.m pc' L S)) : Run K Q T (mkF K.m pc L (.int b :: .int a :: S)) := by
  obtain ⟨locs, X0, -⟩ := X; obtain ⟨hx, -, hby, -⟩ := cx; obtain ⟨d, rfl, ho, hp⟩ := hd
  by_cases q : a < b
  · exact Run.st (fun t u => XS.icmpNo X0.here hx rfl (hb hby d) rfl (XT.ii_ge_f q) u) (k2 q)
  · exact Run.st (fun t u => XS.icmpYes X0.here hx rfl (pc0 := pc) rfl (hb hby d) rfl (XT.ii_ge_t q) ho hp u) (k1 q)
theorem r_ifge {o : Int} {a : Int32} (X : Sd K T h cl sl) (cx : Cx K y bytes mx rt R) (hd : Db bytes pc (.ifCond .ge o) o pc' pt) (k1 : ¬ a < 0 → Run K Q T (mkF K.m pt L S)) (k2 : a < 0 → Run K Q T (mkF K.m pc' L S)) : Run K Q T (mkF K.m pc L (.int a :: S)) := by
  obtain ⟨locs, X0, -⟩ := X; obtain ⟨hx, -, hby, -⟩ := cx; obtain ⟨d, rfl, ho, hp⟩ := hd
  by_cases q : a < 0
  · exact Run.st (fun t u => XS.ifNo X0.here hx rfl (hb hby d) rfl (XT.i0_ge_f q) u) (k2 q)
  · exact Run.st (fun t u => XS.ifYes X0.here hx rfl (pc0 := pc) rfl (hb hby d) rfl (XT.i0_ge_t q) ho hp u) (k1 q)
theorem r_lcmpge {o : Int} {a b : Int64} (X : Sd K T h cl sl) (cx : Cx K y bytes mx rt R) (hd : Db bytes pc (.ifCond .ge o) o pc' pt) (k1 : ¬ a < b → Run K Q T (mkF K.m pt L S)) (k2 : a < b → Run K Q T (mkF K.m pc' L S)) : Run K Q T (mkF K.m pc L (.int (XT.cmpL a b) :: S)) := by
  obtain ⟨locs, X0, -⟩ := X; obtain ⟨hx, -, hby, -⟩ := cx; obtain ⟨d, rfl, ho, hp⟩ := hd
  by_cases q : a < b
  · exact Run.st (fun t u => XS.ifNo X0.here hx rfl (hb hby d) rfl (XT.ll_ge_f q) u) (k2 q)
  · exact Run.st (fun t u => XS.ifYes X0.here hx rfl (pc0 := pc) rfl (hb hby d) rfl (XT.ll_ge_t q) ho hp u) (k1 q)
theorem r_icmpgt {o : Int} {a b : Int32} (X : Sd K T h cl sl) (cx : Cx K y bytes mx rt R) (hd : Db bytes pc (.if_icmp .gt o) o pc' pt) (k1 : b < a → Run K Q T (mkF K.m pt L S)) (k2 : ¬ b < a → Run K Q T (mkF K.m pc' L S)) : Run K Q T (mkF K.m pc L (.int b :: .int a :: S)) := by
  obtain ⟨locs, X0, -⟩ := X; obtain ⟨hx, -, hby, -⟩ := cx; obtain ⟨d, rfl, ho, hp⟩ := hd
  by_cases q : b < a
  · exact Run.st (fun t u => XS.icmpYes X0.here hx rfl (pc0 := pc) rfl (hb hby d) rfl (XT.ii_gt_t q) ho hp u) (k1 q)
  · exact Run.st (fun t u => XS.icmpNo X0.here hx rfl (hb hby d) rfl (XT.ii_gt_f q) u) (k2 q)
theorem r_ifgt {o : Int} {a : Int32} (X : Sd K T h cl sl) (cx : Cx K y bytes mx rt R) (hd : Db bytes pc (.ifCond .gt o) o pc' pt) (k1 : 0 < a → Run K Q T (mkF K.m pt L S)) (k2 : ¬ 0 < a → Run K Q T (mkF K.m pc' L S)) : Run K Q T (mkF K.m pc L (.int a :: S)) := by
  obtain ⟨locs, X0, -⟩ := X; obtain ⟨hx, -, hby, -⟩ := cx; obtain ⟨d, rfl, ho, hp⟩ := hd
  by_cases q : 0 < a
  · exact Run.st (fun t u => XS.ifYes X0.here hx rfl (pc0 := pc) rfl (hb hby d) rfl (XT.i0_gt_t q) ho hp u) (k1 q)
  · exact Run.st (fun t u => XS.ifNo X0.here hx rfl (hb hby d) rfl (XT.i0_gt_f q) u) (k2 q)
theorem r_lcmpgt {o : Int} {a b : Int64} (X : Sd K T h cl sl) (cx : Cx K y bytes mx rt R) (hd : Db bytes pc (.ifCond .gt o) o pc' pt) (k1 : b < a → Run K Q T (mkF K.m pt L S)) (k2 : ¬ b < a → Run K Q T (mkF K.m pc' L S)) : Run K Q T (mkF K.m pc L (.int (XT.cmpL a b) :: S)) := by
  obtain ⟨locs, X0, -⟩ := X; obtain ⟨hx, -, hby, -⟩ := cx; obtain ⟨d, rfl, ho, hp⟩ := hd
  by_cases q : b < a
  · exact Run.st (fun t u => XS.ifYes X0.here hx rfl (pc0 := pc) rfl (hb hby d) rfl (XT.ll_gt_t q) ho hp u) (k1 q)
  · exact Run.st (fun t u => XS.ifNo X0.here hx rfl (hb hby d) rfl (XT.ll_gt_f q) u) (k2 q)
theorem r_icmple {o : Int} {a b : Int32} (X : Sd K T h cl sl) (cx : Cx K y bytes mx rt R) (hd : Db bytes pc (.if_icmp .le o) o pc' pt) (k1 : ¬ b < a → Run K Q T (mkF K.m pt L S)) (k2 : b < a → Run K Q T (mkF K.m pc' L S)) : Run K Q T (mkF K.m pc L (.int b :: .int a :: S)) := by
  obtain ⟨locs, X0, -⟩ := X; obtain ⟨hx, -, hby, -⟩ := cx; obtain ⟨d, rfl, ho, hp⟩ := hd
  by_cases q : b < a
  · exact Run.st (fun t u => XS.icmpNo X0.here hx rfl (hb hby d) rfl (XT.ii_le_f q) u) (k2 q)
  · exact Run.st (fun t u => XS.icmpYes X0.here hx rfl (pc0 := pc) rfl (hb hby d) rfl (XT.ii_le_t q) ho hp u) (k1 q)
theorem r_ifle {o : Int} {a : Int32} (X : Sd K T h cl sl) (cx : Cx K y bytes mx rt R) (hd : Db bytes pc (.ifCond .le o) o pc' pt) (k1 : ¬ 0 < a → Run K Q T (mkF K.m pt L S)) (k2 : 0 < a → Run K Q T (mkF K.m pc' L S)) : Run K Q T (mkF K.m pc L (.int a :: S)) := by
  obtain ⟨locs, X0, -⟩ := X; obtain ⟨hx, -, hby, -⟩ := cx; obtain ⟨d, rfl, ho, hp⟩ := hd
  by_cases q : 0 < a
  · exact Run.st (fun t u => XS.ifNo X0.here hx rfl (hb hby d) rfl (XT.i0_le_f q) u) (k2 q)
  · exact Run.st (fun t u => XS.ifYes X0.here hx rfl (pc0 := pc) rfl (hb hby d) rfl (XT.i0_le_t q) ho hp u) (k1 q)
theorem r_lcmple {o : Int} {a b : Int64} (X : Sd K T h cl sl) (cx : Cx K y bytes mx rt R) (hd : Db bytes pc (.ifCond .le o) o pc' pt) (k1 : ¬ b < a → Run K Q T (mkF K.m pt L S)) (k2 : b < a → Run K Q T (mkF K.m pc' L S)) : Run K Q T (mkF K.m pc L (.int (XT.cmpL a b) :: S)) := by
  obtain ⟨locs, X0, -⟩ := X; obtain ⟨hx, -, hby, -⟩ := cx; obtain ⟨d, rfl, ho, hp⟩ := hd
  by_cases q : b < a
  · exact Run.st (fun t u => XS.ifNo X0.here hx rfl (hb hby d) rfl (XT.ll_le_f q) u) (k2 q)
  · exact Run.st (fun t u => XS.ifYes X0.here hx rfl (pc0 := pc) rfl (hb hby d) rfl (XT.ll_le_t q) ho hp u) (k1 q)
theorem r_ldc {i : Nat} {v : Int32} {a0 : Array Value} (X : Sd K T h cl sl) (cx : Cx K y bytes mx rt R) (hd : Dc bytes pc (.ldc i) 2 pc') (w : (Cond.constant y.cls i v).before a0 K.Z = true) (k : Run K Q T (mkF K.m pc' L (.int v :: S))) : Run K Q T (mkF K.m pc L S) := by
  obtain ⟨locs, X0, -⟩ := X; obtain ⟨hx, hZ, hby, -, hown, -⟩ := cx; obtain ⟨d, rfl⟩ := hd
  exact Run.st (fun t q => Jvm.Stand.ldcI X0 hx hown (mv hZ w) rfl (hb hby d) q) k
theorem r_ldcW {i : Nat} {v : Int32} {a0 : Array Value} (X : Sd K T h cl sl) (cx : Cx K y bytes mx rt R) (hd : Dc bytes pc (.ldc_w i) 3 pc') (w : (Cond.constant y.cls i v).before a0 K.Z = true) (k : Run K Q T (mkF K.m pc' L (.int v :: S))) : Run K Q T (mkF K.m pc L S) := by
  obtain ⟨locs, X0, -⟩ := X; obtain ⟨hx, hZ, hby, -, hown, -⟩ := cx; obtain ⟨d, rfl⟩ := hd
  exact Run.st (fun t q => Jvm.Stand.ldcWI X0 hx hown (mv hZ w) rfl (hb hby d) q) k
theorem r_ldc2 {i : Nat} {v : Int64} {a0 : Array Value} (X : Sd K T h cl sl) (cx : Cx K y bytes mx rt R) (hd : Dc bytes pc (.ldc2_w i) 3 pc') (w : (Cond.constantLong y.cls i v).before a0 K.Z = true) (k : Run K Q T (mkF K.m pc' L (.long v :: S))) : Run K Q T (mkF K.m pc L S) := by
  obtain ⟨locs, X0, -⟩ := X; obtain ⟨hx, hZ, hby, -, hown, -⟩ := cx; obtain ⟨d, rfl⟩ := hd
  exact Run.st (fun t q => Jvm.Stand.ldc2J X0 hx hown (mv hZ w) rfl (hb hby d) q) k
theorem fin {v : Option Value} (X : Sd K T h cl sl) (cx : Cx K y bytes mx rt R) (hv : rt = none → v = none) (hc : cl ≤ R.cells) (hs : sl ≤ R.slots) (hq : Q v h) {g : JFrame}
    (st : ∀ fs, (∀ (f : JFrame) (acts : List Action), f.method = K.m → f.locked = none → f.entered = [] → (doReturn K.e (T.setTop f) acts v).1 = T.setFrames fs) → Steps K.p.tables K.e K.below (T.setTop g) (T.setFrames fs)) : Run K Q T g := by
  obtain ⟨locs, X0, N, hz, eT⟩ := X
  obtain ⟨hx, hZ, hby, hml, hown, hret, hlk, hR, hnm⟩ := cx
  obtain ⟨fs, hr, hrun, hended, hW, hsame⟩ := X0.leave (v := v) (fun q => hv (hret.symm.trans q)) hlk
  refine ⟨_, v, locs, st fs hr, hrun, hended, ?_, N, ⟨_, rfl⟩, hW, hsame.mono (by rw [hR]; exact hc) (by rw [hR]; exact hs)⟩
  show Q v T.heap
  rw [eT]; exact hq
theorem r_ireturn {z : Int32} (X : Sd K T h cl sl) (cx : Cx K y bytes mx (some .int) R) (hd : Dc bytes pc .ireturn 1 pc') (hc : cl ≤ R.cells) (hs : sl ≤ R.slots) (hq : Q (some (.int z)) h) : Run K Q T (mkF K.m pc L (.int z :: S)) := by
  refine fin X cx (fun q => nomatch q) hc hs hq fun fs hr => ?_
  obtain ⟨locs, X0, -⟩ := X; obtain ⟨hx, -, hby, -, -, hret, -⟩ := cx; obtain ⟨d, rfl⟩ := hd
  exact retI X0 hx hret (hb hby d) hr
theorem r_zreturn {z : Int32} (X : Sd K T h cl sl) (cx : Cx K y bytes mx (some .boolean) R) (hd : Dc bytes pc .ireturn 1 pc') (hc : cl ≤ R.cells) (hs : sl ≤ R.slots) (hq : Q (some (.int (nar .boolean z))) h) : Run K Q T (mkF K.m pc L (.int z :: S)) := by
  refine fin X cx (fun q => nomatch q) hc hs hq fun fs hr => ?_
  obtain ⟨locs, X0, -⟩ := X; obtain ⟨hx, -, hby, -, -, hret, -⟩ := cx; obtain ⟨d, rfl⟩ := hd
  exact retN X0 hx (t := .boolean) hret (by simp) (hb hby d) hr
theorem r_lreturn {z : Int64} (X : Sd K T h cl sl) (cx : Cx K y bytes mx (some .long) R) (hd : Dc bytes pc .lreturn 1 pc') (hc : cl ≤ R.cells) (hs : sl ≤ R.slots) (hq : Q (some (.long z)) h) : Run K Q T (mkF K.m pc L [.long z]) := by
  refine fin X cx (fun q => nomatch q) hc hs hq fun fs hr => ?_
  obtain ⟨locs, X0, -⟩ := X; obtain ⟨hx, -, hby, -, -, hret, -⟩ := cx; obtain ⟨d, rfl⟩ := hd
  exact X0.lreturnOut hx hret (hb hby d) hr
theorem r_areturn {z : Addr} {ty : FieldType} (X : Sd K T h cl sl) (cx : Cx K y bytes mx (some ty) R) (hty : ty.isReference = true) (hd : Dc bytes pc .areturn 1 pc') (hc : cl ≤ R.cells) (hs : sl ≤ R.slots) (hq : Q (some (.ref z)) h) : Run K Q T (mkF K.m pc L [.ref z]) := by
  refine fin X cx (fun q => nomatch q) hc hs hq fun fs hr => ?_
  obtain ⟨locs, X0, -⟩ := X; obtain ⟨hx, -, hby, -, -, hret, -⟩ := cx; obtain ⟨d, rfl⟩ := hd
  exact X0.areturnOut hx rfl hret hty (hb hby d) hr
theorem r_return (X : Sd K T h cl sl) (cx : Cx K y bytes mx none R) (hd : Dc bytes pc .return_ 1 pc') (hc : cl ≤ R.cells) (hs : sl ≤ R.slots) (hq : Q none h) : Run K Q T (mkF K.m pc L []) := by
  refine fin X cx (fun _ => rfl) hc hs hq fun fs hr => ?_
  obtain ⟨locs, X0, -⟩ := X; obtain ⟨hx, -, hby, -, -, hret, -⟩ := cx; obtain ⟨d, rfl⟩ := hd
  exact X0.returnOut hx hret (hb hby d) hr
/-! fields -/
theorem r_getfield {O n d : String} {i : Nat} {a : Addr} {v : Value} {a0 : Array Value} (X : Sd K T h cl sl) (cx : Cx K y bytes mx rt R) (hd : Dc bytes pc (.getfield i) 3 pc') (w : (Cond.fieldLink y.cls i O n d).before a0 K.Z = true) (F : Fld K.Z h a O n d v) (k : ∀ T', Sd K T' h cl sl → Run K Q T' (mkF K.m pc' L (v :: S))) : Run K Q T (mkF K.m pc L (.ref a :: S)) := by
  obtain ⟨locs, X0, N, hz, eT⟩ := X; obtain ⟨hx, hZ, hby, -, hown, -⟩ := cx; obtain ⟨dd, rfl⟩ := hd
  obtain ⟨T1, X1, e1, st1⟩ := getF X0 hx hZ hown (host := "") (Or.inl w) Via.refl eT F (g := mkF K.m pc L (.ref a :: S)) rfl rfl (hb hby dd)
  exact Run.st st1 (k T1 ⟨locs, X1, N, hz, e1⟩)
theorem r_getfieldN {O n d host : String} {i : Nat} {a : Addr} {v : Value} {a0 : Array Value} (X : Sd K T h cl sl) (cx : Cx K y bytes mx rt R) (hd : Dc bytes pc (.getfield i) 3 pc') (w : (Cond.fieldLinkNest y.cls i O n d host).before a0 K.Z = true) (F : Fld K.Z h a O n d v) (k : ∀ T', Sd K T' h cl sl → Run K Q T' (mkF K.m pc' L (v :: S))) : Run K Q T (mkF K.m pc L (.ref a :: S)) := by
  obtain ⟨locs, X0, N, hz, eT⟩ := X; obtain ⟨hx, hZ, hby, -, hown, -⟩ := cx; obtain ⟨dd, rfl⟩ := hd
  obtain ⟨T1, X1, e1, st1⟩ := getF X0 hx hZ hown (host := host) (Or.inr w) Via.refl eT F (g := mkF K.m pc L (.ref a :: S)) rfl rfl (hb hby dd)
  exact Run.st st1 (k T1 ⟨locs, X1, N, hz, e1⟩)
theorem r_putfield {O n d C : String} {i kk : Nat} {a : Addr} {v old : Value} {ty : FieldType} {a0 : Array Value} (X : Sd K T h cl sl) (cx : Cx K y bytes mx rt R) (hd : Dc bytes pc (.putfield i) 3 pc') (w : (Cond.fieldLink y.cls i O n d).before a0 K.Z = true) (F : Fld K.Z h a O n d old) (E : Exa K.Z h a C) (hL : (Cond.lays C O n d).before a0 K.Z = true ∨ ((Cond.laysFinal C O n d).before a0 K.Z = true ∧ y.cls = O ∧ y.name = "<init>")) (wi : (Cond.instantiable C kk).before a0 K.Z = true)
    (hty : parseFieldDescriptor d = some ty) (hn : narrow ty v = v) (hf : fits ty v = true) (ge : K.n0 ≤ a) (k : ∀ T' h', Sd K T' h' cl sl → Wr h h' a (Jvm.RoadKit.slotOf K.Z O n d) v → Fld K.Z h' a O n d v → Run K Q T' (mkF K.m pc' L S)) : Run K Q T (mkF K.m pc L (v :: .ref a :: S)) := by
  obtain ⟨locs, X0, N, hz, eT⟩ := X; obtain ⟨hx, hZ, hby, -, hown, -, -, -, hnm⟩ := cx; obtain ⟨dd, rfl⟩ := hd
  obtain ⟨T1, h1, X1, e1, W1, st1⟩ := putF X0 hx hZ hown (host := "") (Or.inl w) Via.refl eT F E (hL.imp id fun q => ⟨q.1, q.2.1, hnm.trans q.2.2⟩) wi hty hn hf (g := mkF K.m pc L (v :: .ref a :: S)) rfl rfl (hb hby dd)
  exact Run.st st1 (k T1 h1 ⟨_, X1, Fr.snoc X1 N ge, by rw [W1.size]; exact hz, e1⟩ W1 (F.same W1))
theorem r_new {C : String} {i n : Nat} {a0 : Array Value} (X : Sd K T h cl sl) (cx : Cx K y bytes mx rt R) (hd : Dc bytes pc (.new i) 3 pc') (w : (Cond.classLink y.cls i C).before a0 K.Z = true) (wi : (Cond.instantiable C n).before a0 K.Z = true) (wz : (Cond.initialized C).before a0 K.Z = true) (hc : cl + 1 ≤ R.cells) (hs : sl + n ≤ R.slots)
    (k : ∀ T' h' a, a = h.size → K.n0 ≤ a → Sd K T' h' (cl + 1) (sl + n) → Ext h h' → Exa K.Z h' a C → (∀ {O nm d : String} {ty : FieldType}, Laid K.Z a0 C O nm d → parseFieldDescriptor d = some ty → Fld K.Z h' a O nm d (defaultValue ty)) → Run K Q T' (mkF K.m pc' L (.ref a :: S))) : Run K Q T (mkF K.m pc L S) := by
  obtain ⟨locs, X0, N, hz, eT⟩ := X; obtain ⟨hx, hZ, hby, -, hown, -, -, hR, -⟩ := cx; obtain ⟨dd, rfl⟩ := hd
  obtain ⟨T1, h1, X1, e1, E1, A1, D1, -, st1⟩ := newO X0 hx hZ hown w wi wz eT (g := mkF K.m pc L S) rfl (hb hby dd) (by rw [hR]; exact hc) (by rw [hR]; exact hs)
  exact Run.st st1 (k T1 h1 h.size rfl hz ⟨locs, X1, N, Nat.le_trans hz E1.1, e1⟩ E1 A1 D1)
theorem r_initO {i : Nat} {a : Addr} {a0 : Array Value} (X : Sd K T h cl sl) (cx : Cx K y bytes mx rt R) (hd : Dc bytes pc (.invokespecial i) 3 pc') (w1 : (Cond.methodLink y.cls i Lib.objectInit).before a0 K.Z = true) (w2 : (Cond.instanceMethod Lib.objectInit).before a0 K.Z = true) (w3 : (Cond.code Lib.objectInit ⟨#[0xb1]⟩ 1 none).before a0 K.Z = true) (hsz : L.size = mx) (hf : 1 ≤ R.frames) (hl : (S.map fun v => v.category).sum + 12 ≤ R.locals) (k : ∀ T', Sd K T' h cl sl → Run K Q T' (mkF K.m pc' L S)) : Run K Q T (mkF K.m pc L (.ref a :: S)) := by
  obtain ⟨locs, X0, N, hz, eT⟩ := X; obtain ⟨hx, hZ, hby, hml, hown, -, -, hR, -⟩ := cx; obtain ⟨dd, rfl⟩ := hd
  obtain ⟨T1, X1, e1, st1⟩ := initO X0 hx hZ hown w1 w2 w3 eT (g := mkF K.m pc L (.ref a :: S)) rfl (by rw [hml]; exact hsz) rfl (hb hby dd) (by rw [hR]; exact hf) (W := (S.map fun v => v.category).sum) (by show 2 * 0 + _ ≤ _; omega) (by rw [hR]; exact hl)
  exact Run.st st1 (k T1 ⟨locs, X1, N, hz, e1⟩)
end Rules
/-! arrays: their whole list of values -/
def AV (Z : State) (h : Heap) (a : Addr) (ty : FieldType) (vs : List Value) : Prop := ∃ c : Cell, Arr Z h a c ty ∧ c.slots.toList = vs ∧ vs.length < 2 ^ 31
def AI (ty : FieldType) (Z : State) (h : Heap) (a : Addr) (xs : List Int32) : Prop := AV Z h a ty (xs.map Value.int)
def AJ (Z : State) (h : Heap) (a : Addr) (xs : List Int64) : Prop := AV Z h a .long (xs.map Value.long)
theorem AV.ext {Z : State} {h h' : Heap} {a : Addr} {ty : FieldType} {vs : List Value} (A : AV Z h a ty vs) (E : Ext h h') : AV Z h' a ty vs := by obtain ⟨c, q, r⟩ := A; exact ⟨c, q.ext E, r⟩
theorem AV.other {Z : State} {h h' : Heap} {a b : Addr} {ty : FieldType} {vs : List Value} {sl : Nat} {v : Value} (A : AV Z h a ty vs) (W : Wr h h' b sl v) (q : a ≠ b) : AV Z h' a ty vs := by obtain ⟨c, u, r⟩ := A; exact ⟨c, u.other W q, r⟩
theorem AV.keep {Z : State} {h h' : Heap} {a : Addr} {ty : FieldType} {vs : List Value} {ws : List Addr} (A : AV Z h a ty vs) (k : Keep h h' ws) (q : a ∉ ws) : AV Z h' a ty vs := by obtain ⟨c, u, r⟩ := A; exact ⟨c, ⟨k.2.1 a c u.1 q, u.2⟩, r⟩
theorem AV.lt {Z : State} {h : Heap} {a : Addr} {ty : FieldType} {vs : List Value} (A : AV Z h a ty vs) : a < h.size := by obtain ⟨c, u, r⟩ := A; exact u.lt
theorem AV.len {Z : State} {h : Heap} {a : Addr} {ty : FieldType} {vs : List Value} (A : AV Z h a ty vs) : vs.length < 2 ^ 31 := by obtain ⟨c, u, r, q⟩ := A; exact q
theorem AV.set {Z : State} {h h' : Heap} {a : Addr} {ty : FieldType} {vs : List Value} {n : Nat} {v : Value} (A : AV Z h a ty vs) (W : Wr h h' a n v) : AV Z h' a ty (vs.set n v) := by
  obtain ⟨c, u, r, q⟩ := A
  refine ⟨_, u.same W, ?_, by simpa using q⟩
  subst r
  simp [Cell.setSlot]
section
variable {ty : FieldType} {Z : State} {h h' : Heap} {a b : Addr} {xs : List Int32} {zs : List Int64} {sl : Nat} {v : Value} {ws : List Addr}
theorem AI.ext (A : AI ty Z h a xs) (E : Ext h h') : AI ty Z h' a xs := AV.ext A E
theorem AI.other (A : AI ty Z h a xs) (W : Wr h h' b sl v) (q : a ≠ b) : AI ty Z h' a xs := AV.other A W q
theorem AI.keep (A : AI ty Z h a xs) (k : Keep h h' ws) (q : a ∉ ws) : AI ty Z h' a xs := AV.keep A k q
theorem AI.lt (A : AI ty Z h a xs) : a < h.size := AV.lt A
theorem AI.len (A : AI ty Z h a xs) : xs.length < 2 ^ 31 := by simpa using AV.len A
theorem AI.set {n : Nat} {x : Int32} (A : AI ty Z h a xs) (W : Wr h h' a n (.int x)) : AI ty Z h' a (xs.set n x) := by
  have q := AV.set A W
  show AV Z h' a ty ((xs.set n x).map Value.int)
  rw [List.map_set]; exact q
theorem AJ.ext (A : AJ Z h a zs) (E : Ext h h') : AJ Z h' a zs := AV.ext A E
theorem AJ.other (A : AJ Z h a zs) (W : Wr h h' b sl v) (q : a ≠ b) : AJ Z h' a zs := AV.other A W q
theorem AJ.keep (A : AJ Z h a zs) (k : Keep h h' ws) (q : a ∉ ws) : AJ Z h' a zs := AV.keep A k q
theorem AJ.lt (A : AJ Z h a zs) : a < h.size := AV.lt A
theorem AJ.len (A : AJ Z h a zs) : zs.length < 2 ^ 31 := by simpa using AV.len A
theorem AJ.set {n : Nat} {x : Int64} (A : AJ Z h a zs) (W : Wr h h' a n (.long x)) : AJ Z h' a (zs.set n x) := by
  have q := AV.set A W
  show AV Z h' a .long ((zs.set n x).map Value.long)
  rw [List.map_set]; exact q
end
theorem ofNat_neg {n : Nat} (hn : n < 2 ^ 31) : ¬ Int32.ofNat n < 0 := by
  rw [Int32.lt_iff_toInt_lt, Int32.toInt_ofNat_of_lt hn]
  show ¬ (n : Int) < 0
  omega
theorem ofNat_clamp {n : Nat} (hn : n < 2 ^ 31) : (Int32.ofNat n).toNatClampNeg = n := by
  show (Int32.ofNat n).toInt.toNat = n
  rw [Int32.toInt_ofNat_of_lt hn]; rfl
section Rules
variable {K : KT} {Q : Option Value → Heap → Prop} {T : State} {h : Heap} {cl sl : Nat} {y : MethodName} {bytes : ByteArray} {mx : Nat} {rt : Option FieldType} {R : Room} {pc pc' pt : Nat} {L : Array Slot} {S : List Value}
theorem r_arraylength {ty : FieldType} {vs : List Value} {a : Addr} (X : Sd K T h cl sl) (cx : Cx K y bytes mx rt R) (hd : Dc bytes pc .arraylength 1 pc') (A : AV K.Z h a ty vs) (k : Run K Q T (mkF K.m pc' L (.int (Int32.ofNat vs.length) :: S))) : Run K Q T (mkF K.m pc L (.ref a :: S)) := by
  obtain ⟨locs, X0, N, hz, eT⟩ := X; obtain ⟨hx, hZ, hby, -, hown, -⟩ := cx; obtain ⟨dd, rfl⟩ := hd
  obtain ⟨c, Ar, hc, hlen⟩ := A
  have hs : c.slots.size = vs.length := by rw [← hc]; simp
  refine Run.st (X0.arraylength hx (cell := c) (by rw [eT]; exact Ar.1) (State.isArrayOf_alike hZ.alike Ar.2.1) (g := mkF K.m pc L (.ref a :: S)) rfl (rest := S) rfl (hb hby dd)) ?_
  rw [hs]; exact k
theorem r_alen {ty : FieldType} {xs : List Int32} {a : Addr} (X : Sd K T h cl sl) (cx : Cx K y bytes mx rt R) (hd : Dc bytes pc .arraylength 1 pc') (A : AI ty K.Z h a xs) (n : Nat) (hn : xs.length = n) (k : Run K Q T (mkF K.m pc' L (.int (Int32.ofNat n) :: S))) : Run K Q T (mkF K.m pc L (.ref a :: S)) :=
  r_arraylength X cx hd A (by rw [List.length_map, hn]; exact k)
theorem r_alenJ {xs : List Int64} {a : Addr} (X : Sd K T h cl sl) (cx : Cx K y bytes mx rt R) (hd : Dc bytes pc .arraylength 1 pc') (A : AJ K.Z h a xs) (n : Nat) (hn : xs.length = n) (k : Run K Q T (mkF K.m pc' L (.int (Int32.ofNat n) :: S))) : Run K Q T (mkF K.m pc L (.ref a :: S)) :=
  r_arraylength X cx hd A (by rw [List.length_map, hn]; exact k)
theorem r_iaload {xs : List Int32} {a : Addr} {j : Int32} {v : Int32} (X : Sd K T h cl sl) (cx : Cx K y bytes mx rt R) (hd : Dc bytes pc .iaload 1 pc') (A : AI .int K.Z h a xs) (n : Nat) (hj : j = Int32.ofNat n) (hv : xs[n]? = some v) (k : Run K Q T (mkF K.m pc' L (.int v :: S))) : Run K Q T (mkF K.m pc L (.int j :: .ref a :: S)) := by
  obtain ⟨locs, X0, N, hz, eT⟩ := X; obtain ⟨hx, hZ, hby, -, hown, -⟩ := cx; obtain ⟨dd, rfl⟩ := hd
  obtain ⟨c, Ar, hc, hlen⟩ := A
  have hs : c.slots.size = xs.length := by have := congrArg List.length hc; simpa using this
  have hl : n < xs.length := (List.getElem?_eq_some_iff.mp hv).1
  have hn : n < 2 ^ 31 := by simp at hlen; omega
  subst hj
  have e1 := ofNat_clamp hn
  have hat : c.slots[(Int32.ofNat n).toNatClampNeg]? = some (.int v) := by
    rw [e1, ← Array.getElem?_toList, hc, List.getElem?_map, hv]; rfl
  exact Run.st (X0.iaload hx (cell := c) (by rw [eT]; exact Ar.1) (State.isArrayOf_alike hZ.alike Ar.2.1) Ar.2.2 (by rw [e1, hs]; intro q; rcases q with q | q; exact ofNat_neg hn q; omega) hat (g := mkF K.m pc L (.int (Int32.ofNat n) :: .ref a :: S)) rfl rfl (hb hby dd)) k
theorem r_saload {xs : List Int32} {a : Addr} {j : Int32} {v : Int32} (X : Sd K T h cl sl) (cx : Cx K y bytes mx rt R) (hd : Dc bytes pc .saload 1 pc') (A : AI .short K.Z h a xs) (n : Nat) (hj : j = Int32.ofNat n) (hv : xs[n]? = some v) (k : Run K Q T (mkF K.m pc' L (.int v :: S))) : Run K Q T (mkF K.m pc L (.int j :: .ref a :: S)) := by
  obtain ⟨locs, X0, N, hz, eT⟩ := X; obtain ⟨hx, hZ, hby, -, hown, -⟩ := cx; obtain ⟨dd, rfl⟩ := hd
  obtain ⟨c, Ar, hc, hlen⟩ := A
  have hs : c.slots.size = xs.length := by have := congrArg List.length hc; simpa using this
  have hl : n < xs.length := (List.getElem?_eq_some_iff.mp hv).1
  have hn : n < 2 ^ 31 := by simp at hlen; omega
  subst hj
  have e1 := ofNat_clamp hn
  have hat : c.slots[(Int32.ofNat n).toNatClampNeg]? = some (.int v) := by
    rw [e1, ← Array.getElem?_toList, hc, List.getElem?_map, hv]; rfl
  exact Run.st (X0.saload hx (cell := c) (by rw [eT]; exact Ar.1) (State.isArrayOf_alike hZ.alike Ar.2.1) Ar.2.2 (by rw [e1, hs]; intro q; rcases q with q | q; exact ofNat_neg hn q; omega) hat (g := mkF K.m pc L (.int (Int32.ofNat n) :: .ref a :: S)) rfl rfl (hb hby dd)) k
theorem r_baload {xs : List Int32} {a : Addr} {j : Int32} {v : Int32} (X : Sd K T h cl sl) (cx : Cx K y bytes mx rt R) (hd : Dc bytes pc .baload 1 pc') (A : AI .byte K.Z h a xs) (n : Nat) (hj : j = Int32.ofNat n) (hv : xs[n]? = some v) (k : Run K Q T (mkF K.m pc' L (.int v :: S))) : Run K Q T (mkF K.m pc L (.int j :: .ref a :: S)) := by
  obtain ⟨locs, X0, N, hz, eT⟩ := X; obtain ⟨hx, hZ, hby, -, hown, -⟩ := cx; obtain ⟨dd, rfl⟩ := hd
  obtain ⟨c, Ar, hc, hlen⟩ := A
  have hs : c.slots.size = xs.length := by have := congrArg List.length hc; simpa using this
  have hl : n < xs.length := (List.getElem?_eq_some_iff.mp hv).1
  have hn : n < 2 ^ 31 := by simp at hlen; omega
  subst hj
  have e1 := ofNat_clamp hn
  have hat : c.slots[(Int32.ofNat n).toNatClampNeg]? = some (.int v) := by
    rw [e1, ← Array.getElem?_toList, hc, List.getElem?_map, hv]; rfl
  exact Run.st (X0.baloadBytes hx (cell := c) (by rw [eT]; exact Ar.1) (State.isArrayOf_alike hZ.alike Ar.2.1) Ar.2.2 (by rw [e1, hs]; intro q; rcases q with q | q; exact ofNat_neg hn q; omega) hat (g := mkF K.m pc L (.int (Int32.ofNat n) :: .ref a :: S)) rfl rfl (hb hby dd)) k
theorem r_laload {xs : List Int64} {a : Addr} {j : Int32} {v : Int64} (X : Sd K T h cl sl) (cx : Cx K y bytes mx rt R) (hd : Dc bytes pc .laload 1 pc') (A : AJ K.Z h a xs) (n : Nat) (hj : j = Int32.ofNat n) (hv : xs[n]? = some v) (k : Run K Q T (mkF K.m pc' L (.long v :: S))) : Run K Q T (mkF K.m pc L (.int j :: .ref a :: S)) := by
  obtain ⟨locs, X0, N, hz, eT⟩ := X; obtain ⟨hx, hZ, hby, -, hown, -⟩ := cx; obtain ⟨dd, rfl⟩ := hd
  obtain ⟨c, Ar, hc, hlen⟩ := A
  have hs : c.slots.size = xs.length := by have := congrArg List.length hc; simpa using this
  have hl : n < xs.length := (List.getElem?_eq_some_iff.mp hv).1
  have hn : n < 2 ^ 31 := by simp at hlen; omega
  subst hj
  have e1 := ofNat_clamp hn
  have hat : c.slots[(Int32.ofNat n).toNatClampNeg]? = some (.long v) := by
    rw [e1, ← Array.getElem?_toList, hc, List.getElem?_map, hv]; rfl
  exact Run.st (X0.laload hx (cell := c) (by rw [eT]; exact Ar.1) (State.isArrayOf_alike hZ.alike Ar.2.1) Ar.2.2 (by rw [e1, hs]; intro q; rcases q with q | q; exact ofNat_neg hn q; omega) hat (g := mkF K.m pc L (.int (Int32.ofNat n) :: .ref a :: S)) rfl rfl (hb hby dd)) k
theorem r_iastore {xs : List Int32} {a : Addr} {j : Int32} {x : Int32} (X : Sd K T h cl sl) (cx : Cx K y bytes mx rt R) (hd : Dc bytes pc .iastore 1 pc') (A : AI .int K.Z h a xs) (n : Nat) (hj : j = Int32.ofNat n) (hl : n < xs.length) (ge : K.n0 ≤ a) (k : ∀ T' h', Sd K T' h' cl sl → Wr h h' a n (.int x) → AI .int K.Z h' a (xs.set n x) → Run K Q T' (mkF K.m pc' L S)) : Run K Q T (mkF K.m pc L (.int x :: .int j :: .ref a :: S)) := by
  obtain ⟨locs, X0, N, hz, eT⟩ := X; obtain ⟨hx, hZ, hby, -, hown, -⟩ := cx; obtain ⟨dd, rfl⟩ := hd
  have A0 := A
  obtain ⟨c, Ar, hc, hlen⟩ := A
  have hs : c.slots.size = xs.length := by have := congrArg List.length hc; simpa using this
  have hn : n < 2 ^ 31 := by simp at hlen; omega
  subst hj
  have e1 := ofNat_clamp hn
  obtain ⟨T1, h1, X1, eh1, W1, st1⟩ := stI X0 hx hZ eT Ar (j := Int32.ofNat n) (x := x) (by rw [e1, hs]; intro q; rcases q with q | q; exact ofNat_neg hn q; omega) (g := mkF K.m pc L (.int x :: .int (Int32.ofNat n) :: .ref a :: S)) rfl rfl (hb hby dd)
  have hz1 : K.n0 ≤ h1.size := by rw [W1.size]; exact hz
  have N1 := Fr.snoc X1 N ge
  rw [e1] at W1
  exact Run.st st1 (k T1 h1 ⟨_, X1, N1, hz1, eh1⟩ W1 (AI.set A0 W1))
theorem r_sastore {xs : List Int32} {a : Addr} {j : Int32} {x : Int32} (X : Sd K T h cl sl) (cx : Cx K y bytes mx rt R) (hd : Dc bytes pc .sastore 1 pc') (A : AI .short K.Z h a xs) (n : Nat) (hj : j = Int32.ofNat n) (hl : n < xs.length) (ge : K.n0 ≤ a) (k : ∀ T' h', Sd K T' h' cl sl → Wr h h' a n (.int (nar .short x)) → AI .short K.Z h' a (xs.set n (nar .short x)) → Run K Q T' (mkF K.m pc' L S)) : Run K Q T (mkF K.m pc L (.int x :: .int j :: .ref a :: S)) := by
  obtain ⟨locs, X0, N, hz, eT⟩ := X; obtain ⟨hx, hZ, hby, -, hown, -⟩ := cx; obtain ⟨dd, rfl⟩ := hd
  have A0 := A
  obtain ⟨c, Ar, hc, hlen⟩ := A
  have hs : c.slots.size = xs.length := by have := congrArg List.length hc; simpa using this
  have hn : n < 2 ^ 31 := by simp at hlen; omega
  subst hj
  have e1 := ofNat_clamp hn
  obtain ⟨T1, h1, X1, eh1, W1, st1⟩ := stS X0 hx hZ eT Ar (j := Int32.ofNat n) (x := x) (by rw [e1, hs]; intro q; rcases q with q | q; exact ofNat_neg hn q; omega) (g := mkF K.m pc L (.int x :: .int (Int32.ofNat n) :: .ref a :: S)) rfl rfl (hb hby dd)
  have hz1 : K.n0 ≤ h1.size := by rw [W1.size]; exact hz
  have N1 := Fr.snoc X1 N ge
  rw [e1] at W1
  exact Run.st st1 (k T1 h1 ⟨_, X1, N1, hz1, eh1⟩ W1 (AI.set A0 W1))
theorem r_bastore {xs : List Int32} {a : Addr} {j : Int32} {x : Int32} (X : Sd K T h cl sl) (cx : Cx K y bytes mx rt R) (hd : Dc bytes pc .bastore 1 pc') (A : AI .byte K.Z h a xs) (n : Nat) (hj : j = Int32.ofNat n) (hl : n < xs.length) (ge : K.n0 ≤ a) (k : ∀ T' h', Sd K T' h' cl sl → Wr h h' a n (.int (nar .byte x)) → AI .byte K.Z h' a (xs.set n (nar .byte x)) → Run K Q T' (mkF K.m pc' L S)) : Run K Q T (mkF K.m pc L (.int x :: .int j :: .ref a :: S)) := by
  obtain ⟨locs, X0, N, hz, eT⟩ := X; obtain ⟨hx, hZ, hby, -, hown, -⟩ := cx; obtain ⟨dd, rfl⟩ := hd
  have A0 := A
  obtain ⟨c, Ar, hc, hlen⟩ := A
  have hs : c.slots.size = xs.length := by have := congrArg List.length hc; simpa using this
  have hn : n < 2 ^ 31 := by simp at hlen; omega
  subst hj
  have e1 := ofNat_clamp hn
  obtain ⟨T1, h1, X1, eh1, W1, st1⟩ := stB X0 hx hZ eT Ar (j := Int32.ofNat n) (x := x) (by rw [e1, hs]; intro q; rcases q with q | q; exact ofNat_neg hn q; omega) (g := mkF K.m pc L (.int x :: .int (Int32.ofNat n) :: .ref a :: S)) rfl rfl (hb hby dd)
  have hz1 : K.n0 ≤ h1.size := by rw [W1.size]; exact hz
  have N1 := Fr.snoc X1 N ge
  rw [e1] at W1
  exact Run.st st1 (k T1 h1 ⟨_, X1, N1, hz1, eh1⟩ W1 (AI.set A0 W1))
theorem r_lastore {xs : List Int64} {a : Addr} {j : Int32} {x : Int64} (X : Sd K T h cl sl) (cx : Cx K y bytes mx rt R) (hd : Dc bytes pc .lastore 1 pc') (A : AJ K.Z h a xs) (n : Nat) (hj : j = Int32.ofNat n) (hl : n < xs.length) (ge : K.n0 ≤ a) (k : ∀ T' h', Sd K T' h' cl sl → Wr h h' a n (.long x) → AJ K.Z h' a (xs.set n x) → Run K Q T' (mkF K.m pc' L S)) : Run K Q T (mkF K.m pc L (.long x :: .int j :: .ref a :: S)) := by
  obtain ⟨locs, X0, N, hz, eT⟩ := X; obtain ⟨hx, hZ, hby, -, hown, -⟩ := cx; obtain ⟨dd, rfl⟩ := hd
  have A0 := A
  obtain ⟨c, Ar, hc, hlen⟩ := A
  have hs : c.slots.size = xs.length := by have := congrArg List.length hc; simpa using this
  have hn : n < 2 ^ 31 := by simp at hlen; omega
  subst hj
  have e1 := ofNat_clamp hn
  obtain ⟨T1, h1, X1, eh1, W1, st1⟩ := stJ X0 hx hZ eT Ar (j := Int32.ofNat n) (x := x) (by rw [e1, hs]; intro q; rcases q with q | q; exact ofNat_neg hn q; omega) (g := mkF K.m pc L (.long x :: .int (Int32.ofNat n) :: .ref a :: S)) rfl rfl (hb hby dd)
  have hz1 : K.n0 ≤ h1.size := by rw [W1.size]; exact hz
  have N1 := Fr.snoc X1 N ge
  rw [e1] at W1
  exact Run.st st1 (k T1 h1 ⟨_, X1, N1, hz1, eh1⟩ W1 (AJ.set A0 W1))
theorem r_newarray {aty : ArrayType} {a0 : Array Value} {z : Int32} (X : Sd K T h cl sl) (cx : Cx K y bytes mx rt R) (hd : Dc bytes pc (.newarray aty) 2 pc') (w : (Cond.arrayClass (newarray.typeOf aty)).before a0 K.Z = true) (n cap : Nat) (hj : z = Int32.ofNat n) (hcap : n ≤ cap) (hb8 : cap * 8 ≤ 536870912) (hc : cl + 1 ≤ R.cells) (hs : sl + cap ≤ R.slots)
    (k : ∀ T' h' a, a = h.size → K.n0 ≤ a → Sd K T' h' (cl + 1) (sl + cap) → Ext h h' → AV K.Z h' a (newarray.typeOf aty) (List.replicate n (defaultValue (newarray.typeOf aty))) → Run K Q T' (mkF K.m pc' L (.ref a :: S))) : Run K Q T (mkF K.m pc L (.int z :: S)) := by
  obtain ⟨locs, X0, N, hz, eT⟩ := X; obtain ⟨hx, hZ, hby, -, hown, -, -, hR, -⟩ := cx; obtain ⟨dd, rfl⟩ := hd
  have hn : n < 2 ^ 31 := by omega
  subst hj
  have e1 := ofNat_clamp hn
  obtain ⟨T1, h1, cA, X1, eh1, E1, A1, st1⟩ := newP X0 hx hZ w eT (g := mkF K.m pc L (.int (Int32.ofNat n) :: S)) rfl (hb hby dd) (n := Int32.ofNat n) rfl (ofNat_neg hn) (cap := cap) (by rw [e1]; exact hcap) hb8 (by rw [hR]; exact hc) (by rw [hR]; exact hs)
  refine Run.st st1 (k T1 h1 h.size rfl hz ⟨locs, X1, N, Nat.le_trans hz E1.1, eh1⟩ E1 ⟨_, A1, ?_, by simpa using hn⟩)
  simp [newA, e1]
theorem AI.new {ty : FieldType} {Z : State} {h : Heap} {a : Addr} {n : Nat} (A : AV Z h a ty (List.replicate n (.int 0))) : AI ty Z h a (List.replicate n 0) := by
  show AV Z h a ty _
  rw [List.map_replicate]; exact A
theorem AJ.new {Z : State} {h : Heap} {a : Addr} {n : Nat} (A : AV Z h a .long (List.replicate n (.long 0))) : AJ Z h a (List.replicate n 0) := by
  show AV Z h a .long _
  rw [List.map_replicate]; exact A
end Rules
/-! contracts and calls -/
def Con (l : Launch) (Z : State) (y : MethodName) (bytes : ByteArray) (mx : Nat) (rt : Option FieldType) (rm : Room) (as : Array Value) (h0 : Heap) (n0 : Nat) (Q : Option Value → Heap → Prop) : Prop :=
  ∀ ws, MetFree l y (head1 (Jvm.Cond.code y bytes mx rt :: ws) rm) (fun a U => a = as ∧ Z.Warmed39 U.vm ∧ U.heap = h0) (fun _ _ _ _ _ => True) (fun _ U o U' => ∃ v L, o = .returned v ∧ (Q v U'.heap ∧ Fr n0 L) ∧ FrameEnd U o U' L rm.cells rm.slots)
theorem Con.of {l : Launch} {Z : State} {y : MethodName} {bytes : ByteArray} {mx : Nat} {rt : Option FieldType} {rm : Room} {as : Array Value} {h0 : Heap} {n0 : Nat} {Q : Option Value → Heap → Prop} (hy : plainFor y = true) (Z0 : n0 ≤ h0.size)
    (body : ∀ K : KT, K.l = l → K.Z = Z → K.n0 = n0 → Cx K y bytes mx rt rm → ∀ T, Sd K T h0 0 0 → Run K Q T (entryFrame K.m as mx)) : Con l Z y bytes mx rt rm as h0 n0 Q := by
  intro ws
  refine MetFree.of_bodySF hy hisR ?_
  intro p e s m args below meth c s₁ Bd hml0 hP hK
  obtain ⟨rfl, hZ, hh⟩ := hP
  have hown : s.vm.findClass y.cls = some m.cls := findClass_of_methodNamed Bd.named
  have hnm := (name_of_methodNamed Bd.named Bd.method).1
  have X0 : Stand p l e rm s m args below meth c s₁ [] 0 0 := Stand.of_body Bd
  have e0 : s₁.heap = h0 := by rw [← hh, Bd.state]; rfl
  obtain ⟨s₂, v, L, h1, h2, h3, h4, h5, h6⟩ := body (p, l, e, rm, s, m, args, below, meth, c, Z, n0) rfl rfl rfl ⟨Bd.exec, hZ, Bd.bytes, hml0, hown, Bd.returns, Bd.notSynchronized, rfl, hnm⟩ s₁ ⟨[], X0, Fr.nil n0, Z0, e0⟩
  exact ⟨s₂, _, h1, h2, h3, v, L, rfl, ⟨h4, h5⟩, h6⟩
section Calls
variable {K : KT} {Q : Option Value → Heap → Prop} {T : State} {h : Heap} {cl sl : Nat} {y : MethodName} {bytes : ByteArray} {mx : Nat} {rt : Option FieldType} {R : Room} {pc pc' pt : Nat} {L : Array Slot}
theorem r_static {z : MethodName} {zb : ByteArray} {zm : Nat} {zr : Option FieldType} {rm : Room} {i : Nat} {a0 : Array Value} {Qz : Option Value → Heap → Prop} {St : List Value} (argsL rest : List Value) (X : Sd K T h cl sl) (cx : Cx K y bytes mx rt R) (hd : Dc bytes pc (.invokestatic i) 3 pc')
    (w1 : (Cond.methodLink y.cls i z).before a0 K.Z = true) (w2 : (Cond.static z).before a0 K.Z = true) (w3 : (Cond.initialized z.cls).before a0 K.Z = true) (w4 : (Cond.code z zb zm zr).before a0 K.Z = true) (hm : z.cls ≠ "java/lang/invoke/MethodHandle" ∧ z.cls ≠ "java/lang/invoke/VarHandle")
    (con : Con K.l K.Z z zb zm zr rm argsL.toArray h K.n0 Qz) (hpd : ∀ sig, parseMethodDescriptor z.desc = some sig → argsL.length = sig.parameters.length) (hSt : St = argsL.reverse ++ rest) (hsz : L.size = mx) (hf : rm.frames + 1 ≤ R.frames) (hl : (rest.map fun v => v.category).sum + (zm + 11) + rm.locals ≤ R.locals) (hc : cl + rm.cells ≤ R.cells) (hs : sl + rm.slots ≤ R.slots)
    (k : ∀ T' h' v, Sd K T' h' (cl + rm.cells) (sl + rm.slots) → Qz v h' → Run K Q T' (mkF K.m pc' L (v.toList ++ rest))) (hmono : ∀ v h', Qz v h' → h.size ≤ h'.size) : Run K Q T (mkF K.m pc L St) := by
  obtain ⟨locs, X0, N, hz, eT⟩ := X; obtain ⟨hx, hZ, hby, hml, hown, -, -, hR, -⟩ := cx; obtain ⟨dd, rfl⟩ := hd
  obtain ⟨v, _, ⟨T1, L1, k1, n1⟩, -, X1, ⟨Lc, ⟨hQ, hF⟩, l1, y1, z1⟩, st1⟩ := Jvm.LawKit.callS X0 hx (y := z) hown (mvT hZ w1) (mvT hZ w2) (mvT hZ w3) (mvT hZ w4) hm (backOf (W := (rest.map fun v => v.category).sum) (Q := fun v h L => Qz v h ∧ Fr K.n0 L) (con []) hZ w4 w3 (by rw [hR]; exact hf) (by rw [hR]; exact hl)) (g := mkF K.m pc L St) rfl (by rw [hml]; exact hsz) (argsL := argsL) (rest := rest) hpd hSt (by show 2 * 0 + _ ≤ _; omega) (hb hby dd) (fun _ _ => ⟨rfl, eT, by rw [hR]; exact hc, by rw [hR]; exact hs⟩)
  dsimp only [Pt.U, Pt.locs, Pt.cells, Pt.slots] at X1 l1 y1 z1 st1 hQ
  subst l1 y1 z1
  exact Run.st st1 (k T1 _ v ⟨_, X1, Fr.app N hF, Nat.le_trans hz (hmono _ _ hQ), rfl⟩ hQ)
theorem r_virtual {z : MethodName} {C : String} {zb : ByteArray} {zm : Nat} {zr : Option FieldType} {rm : Room} {i : Nat} {a : Addr} {a0 : Array Value} {Qz : Option Value → Heap → Prop} {St : List Value} (argsL rest : List Value) (X : Sd K T h cl sl) (cx : Cx K y bytes mx rt R) (hd : Dc bytes pc (.invokevirtual i) 3 pc') (E : Exa K.Z h a C)
    (w1 : (Cond.methodLink y.cls i z).before a0 K.Z = true) (w2 : (Cond.declares z).before a0 K.Z = true) (w3 : (Cond.selects C z z).before a0 K.Z = true) (w4 : (Cond.instanceMethod z).before a0 K.Z = true) (w5 : (Cond.initialized z.cls).before a0 K.Z = true) (w6 : (Cond.code z zb zm zr).before a0 K.Z = true) (hm : z.cls ≠ "java/lang/invoke/MethodHandle" ∧ z.cls ≠ "java/lang/invoke/VarHandle")
    (con : Con K.l K.Z z zb zm zr rm (.ref a :: argsL).toArray h K.n0 Qz) (hpd : ∀ sig, parseMethodDescriptor z.desc = some sig → argsL.length = sig.parameters.length) (hSt : St = argsL.reverse ++ .ref a :: rest) (hsz : L.size = mx) (hf : rm.frames + 1 ≤ R.frames) (hl : (rest.map fun v => v.category).sum + (zm + 11) + rm.locals ≤ R.locals) (hc : cl + rm.cells ≤ R.cells) (hs : sl + rm.slots ≤ R.slots)
    (k : ∀ T' h' v, Sd K T' h' (cl + rm.cells) (sl + rm.slots) → Qz v h' → Run K Q T' (mkF K.m pc' L (v.toList ++ rest))) (hmono : ∀ v h', Qz v h' → h.size ≤ h'.size) : Run K Q T (mkF K.m pc L St) := by
  obtain ⟨locs, X0, N, hz, eT⟩ := X; obtain ⟨hx, hZ, hby, hml, hown, -, -, hR, -⟩ := cx; obtain ⟨dd, rfl⟩ := hd
  obtain ⟨cq, kq, qa, qb, qc⟩ := isOf hZ eT E
  obtain ⟨v, _, ⟨T1, L1, k1, n1⟩, -, X1, ⟨Lc, ⟨hQ, hF⟩, l1, y1, z1⟩, st1⟩ := X0.virtualBack hx (y := z) (z := z) hown (mvT hZ w1) (mvT hZ w2) (notFace_of_selects (args := #[]) (mvT hZ w3)) (mvT hZ w3) (mvT hZ w4) hm (backOf (W := (rest.map fun v => v.category).sum) (Q := fun v h L => Qz v h ∧ Fr K.n0 L) (con []) hZ w6 w5 (by rw [hR]; exact hf) (by rw [hR]; exact hl)) qa qc (g := mkF K.m pc L St) rfl (by rw [hml]; exact hsz) (Steps.refl _) (argsL := argsL) (rest := rest) hpd hSt (by show 2 * 0 + _ ≤ _; omega) (hb hby dd) (fun _ _ => ⟨rfl, eT, by rw [hR]; exact hc, by rw [hR]; exact hs⟩)
  dsimp only [Pt.U, Pt.locs, Pt.cells, Pt.slots] at X1 l1 y1 z1 st1 hQ
  subst l1 y1 z1
  exact Run.st (fun t q => st1.trans q) (k T1 _ v ⟨_, X1, Fr.app N hF, Nat.le_trans hz (hmono _ _ hQ), rfl⟩ hQ)
theorem r_private {z z' : MethodName} {C C' : String} {zb : ByteArray} {zm : Nat} {zr : Option FieldType} {rm : Room} {i : Nat} {a : Addr} {a0 : Array Value} {Qz : Option Value → Heap → Prop} {St : List Value} (argsL rest : List Value) (X : Sd K T h cl sl) (cx : Cx K y bytes mx rt R) (hd : Dc bytes pc (.invokevirtual i) 3 pc') (E : Exa K.Z h a C)
    (w1 : (Cond.methodLink y.cls i z).before a0 K.Z = true) (w2 : (Cond.selects C' z' z').before a0 K.Z = true) (w3 : (Cond.instanceMethod z).before a0 K.Z = true) (w4 : (Cond.privateMethod z).before a0 K.Z = true) (w5 : (Cond.initialized z.cls).before a0 K.Z = true) (w6 : (Cond.code z zb zm zr).before a0 K.Z = true) (hzz : z'.cls = z.cls) (hm : z.cls ≠ "java/lang/invoke/MethodHandle" ∧ z.cls ≠ "java/lang/invoke/VarHandle")
    (con : Con K.l K.Z z zb zm zr rm (.ref a :: argsL).toArray h K.n0 Qz) (hpd : ∀ sig, parseMethodDescriptor z.desc = some sig → argsL.length = sig.parameters.length) (hSt : St = argsL.reverse ++ .ref a :: rest) (hsz : L.size = mx) (hf : rm.frames + 1 ≤ R.frames) (hl : (rest.map fun v => v.category).sum + (zm + 11) + rm.locals ≤ R.locals) (hc : cl + rm.cells ≤ R.cells) (hs : sl + rm.slots ≤ R.slots)
    (k : ∀ T' h' v, Sd K T' h' (cl + rm.cells) (sl + rm.slots) → Qz v h' → Run K Q T' (mkF K.m pc' L (v.toList ++ rest))) (hmono : ∀ v h', Qz v h' → h.size ≤ h'.size) : Run K Q T (mkF K.m pc L St) := by
  obtain ⟨locs, X0, N, hz, eT⟩ := X; obtain ⟨hx, hZ, hby, hml, hown, -, -, hR, -⟩ := cx; obtain ⟨dd, rfl⟩ := hd
  obtain ⟨cq, qa, qb⟩ := E.cell
  have u2 : (Cond.selects C' z' z').before K.args K.s = true := mvT hZ w2
  have u3 : (Cond.instanceMethod z).before K.args K.s = true := mvT hZ w3
  obtain ⟨c2, r2, m2, q1, q2, q3, q4, kP, hkP, hkPi⟩ := Cond.selects_spec u2
  have hc2 := findClass_of_methodNamed q3
  rw [hzz] at hc2
  have hpriv := Cond.privateMethod_at (mvP hZ w4 (args := K.args))
  have hsel := selects_self_of_private hc2 hkP hkPi hpriv u3 hm
  obtain ⟨v, _, ⟨T1, L1, k1, n1⟩, -, X1, ⟨Lc, ⟨hQ, hF⟩, l1, y1, z1⟩, st1⟩ := X0.privateBack hx (y := z) hown (mvT hZ w1) u3 hsel hpriv (mvT hZ w6) hm (backOf (W := (rest.map fun v => v.category).sum) (Q := fun v h L => Qz v h ∧ Fr K.n0 L) (con []) hZ w6 w5 (by rw [hR]; exact hf) (by rw [hR]; exact hl)) (g := mkF K.m pc L St) rfl (by rw [hml]; exact hsz) (Steps.refl _) (a := a) (by rw [eT]; exact qa) qb (argsL := argsL) (rest := rest) hpd hSt (by show 2 * 0 + _ ≤ _; omega) (hb hby dd) (fun _ _ => ⟨rfl, eT, by rw [hR]; exact hc, by rw [hR]; exact hs⟩)
  dsimp only [Pt.U, Pt.locs, Pt.cells, Pt.slots] at X1 l1 y1 z1 st1 hQ
  subst l1 y1 z1
  exact Run.st (fun t q => st1.trans q) (k T1 _ v ⟨_, X1, Fr.app N hF, Nat.le_trans hz (hmono _ _ hQ), rfl⟩ hQ)
theorem r_special {z : MethodName} {zb : ByteArray} {zm : Nat} {rm : Room} {i : Nat} {a : Addr} {a0 : Array Value} {Qz : Option Value → Heap → Prop} {St : List Value} (argsL rest : List Value) (X : Sd K T h cl sl) (cx : Cx K y bytes mx rt R) (hd : Dc bytes pc (.invokespecial i) 3 pc') (hzn : z.name = "<init>")
    (w1 : (Cond.methodLink y.cls i z).before a0 K.Z = true) (w2 : (Cond.instanceMethod z).before a0 K.Z = true) (w3 : (Cond.initialized z.cls).before a0 K.Z = true) (w4 : (Cond.code z zb zm none).before a0 K.Z = true) (hm : z.cls ≠ "java/lang/invoke/MethodHandle" ∧ z.cls ≠ "java/lang/invoke/VarHandle")
    (con : Con K.l K.Z z zb zm none rm (.ref a :: argsL).toArray h K.n0 Qz) (hpd : ∀ sig, parseMethodDescriptor z.desc = some sig → argsL.length = sig.parameters.length) (hSt : St = argsL.reverse ++ .ref a :: rest) (hsz : L.size = mx) (hf : rm.frames + 1 ≤ R.frames) (hl : (rest.map fun v => v.category).sum + (zm + 11) + rm.locals ≤ R.locals) (hc : cl + rm.cells ≤ R.cells) (hs : sl + rm.slots ≤ R.slots)
    (k : ∀ T' h' v, Sd K T' h' (cl + rm.cells) (sl + rm.slots) → Qz v h' → Run K Q T' (mkF K.m pc' L (v.toList ++ rest))) (hmono : ∀ v h', Qz v h' → h.size ≤ h'.size) : Run K Q T (mkF K.m pc L St) := by
  obtain ⟨locs, X0, N, hz, eT⟩ := X; obtain ⟨hx, hZ, hby, hml, hown, -, -, hR, -⟩ := cx; obtain ⟨dd, rfl⟩ := hd
  obtain ⟨v, _, ⟨T1, L1, k1, n1⟩, -, X1, ⟨Lc, ⟨hQ, hF⟩, l1, y1, z1⟩, st1⟩ := X0.specialBack hx (y := z) hzn hown (mvT hZ w1) (mvT hZ w2) (mvT hZ w4) hm (backOf (W := (rest.map fun v => v.category).sum) (Q := fun v h L => Qz v h ∧ Fr K.n0 L) (con []) hZ w4 w3 (by rw [hR]; exact hf) (by rw [hR]; exact hl)) (g := mkF K.m pc L St) rfl (by rw [hml]; exact hsz) (Steps.refl _) (a := a) (argsL := argsL) (rest := rest) hpd hSt (by show 2 * 0 + _ ≤ _; omega) (hb hby dd) (fun _ _ => ⟨rfl, eT, by rw [hR]; exact hc, by rw [hR]; exact hs⟩)
  dsimp only [Pt.U, Pt.locs, Pt.cells, Pt.slots] at X1 l1 y1 z1 st1 hQ
  subst l1 y1 z1
  exact Run.st (fun t q => st1.trans q) (k T1 _ v ⟨_, X1, Fr.app N hF, Nat.le_trans hz (hmono _ _ hQ), rfl⟩ hQ)
end Calls
end Jvm.Own
namespace Jvm.Pilot.@@N@@
open Jvm Jvm.ClassFile Sem Op Lib Jvm.Free Jvm.Stand Jvm.LawKit Jvm.RoadKit Bundle Jvm.Own Jvm.Pilot.@@N@@.Jvm.D
theorem pd_0 : parseMethodDescriptor "([II)V" = some ⟨[.array .int, .int], none⟩ := by decide +kernel
theorem pd_1 : parseMethodDescriptor "(IJI)V" = some ⟨[.int, .long, .int], none⟩ := by decide +kernel
theorem pd_2 : parseMethodDescriptor "(I)V" = some ⟨[.int], none⟩ := by decide +kernel
theorem pd_3 : parseMethodDescriptor "()Z" = some ⟨[], some (.boolean)⟩ := by decide +kernel
theorem pd_4 : parseMethodDescriptor "(IJ)V" = some ⟨[.int, .long], none⟩ := by decide +kernel
theorem pd_5 : parseMethodDescriptor "()I" = some ⟨[], some (.int)⟩ := by decide +kernel
theorem pd_6 : parseMethodDescriptor "()V" = some ⟨[], none⟩ := by decide +kernel
def NH (Z : State) (n0 : Nat) (h : Heap) (o an ak ap : Addr) (ns : List Int32) (ks : List Int64) (ps : List Int32) (sz : Int32) : Prop :=
  Exa Z h o "com/example/lacewood/lacewood/paths/NodeHeap" ∧ Fld Z h o "com/example/lacewood/lacewood/paths/NodeHeap" "nodes" "[I" (.ref an) ∧ Fld Z h o "com/example/lacewood/lacewood/paths/NodeHeap" "keys" "[J" (.ref ak) ∧ Fld Z h o "com/example/lacewood/lacewood/paths/NodeHeap" "positionOf" "[I" (.ref ap) ∧ Fld Z h o "com/example/lacewood/lacewood/paths/NodeHeap" "size" "I" (.int sz) ∧ AI .int Z h an ns ∧ AJ Z h ak ks ∧ AI .int Z h ap ps ∧
    o ≠ an ∧ o ≠ ak ∧ o ≠ ap ∧ an ≠ ak ∧ an ≠ ap ∧ ak ≠ ap ∧ n0 ≤ o ∧ n0 ≤ an ∧ n0 ≤ ak ∧ n0 ≤ ap
theorem own_at4 {ps : List Int32} {v : Nat} (hpl : ps.length = 4) (hv : v < 4) : v < ps.length := by omega
theorem own_zset {h h' : Heap} {a : Addr} {n : Nat} {v : Value} (W : Wr h h' a n v) {k : Nat} (q : k ≤ h.size) : k ≤ h'.size := by rw [W.size]; exact q
theorem J65m103_0 : Dc jdk_65_method_103_code 0 (.iconst 0) 1 1 := ⟨(by decide +kernel), rfl⟩
theorem J65m103_1 : Dc jdk_65_method_103_code 1 (.istore_n 2) 1 2 := ⟨(by decide +kernel), rfl⟩
theorem J65m103_2 : Dc jdk_65_method_103_code 2 (.aload_n 0) 1 3 := ⟨(by decide +kernel), rfl⟩
theorem J65m103_3 : Dc jdk_65_method_103_code 3 (.arraylength) 1 4 := ⟨(by decide +kernel), rfl⟩
theorem J65m103_4 : Dc jdk_65_method_103_code 4 (.istore_n 3) 1 5 := ⟨(by decide +kernel), rfl⟩
theorem J65m103_5 : Dc jdk_65_method_103_code 5 (.iload_n 2) 1 6 := ⟨(by decide +kernel), rfl⟩
theorem J65m103_6 : Dc jdk_65_method_103_code 6 (.iload_n 3) 1 7 := ⟨(by decide +kernel), rfl⟩
theorem J65m103_7 : Db jdk_65_method_103_code 7 (.if_icmp .ge 13) (13) 10 20 := ⟨(by decide +kernel), rfl, by decide, by decide⟩
theorem J65m103_10 : Dc jdk_65_method_103_code 10 (.aload_n 0) 1 11 := ⟨(by decide +kernel), rfl⟩
theorem J65m103_11 : Dc jdk_65_method_103_code 11 (.iload_n 2) 1 12 := ⟨(by decide +kernel), rfl⟩
theorem J65m103_12 : Dc jdk_65_method_103_code 12 (.iload_n 1) 1 13 := ⟨(by decide +kernel), rfl⟩
theorem J65m103_13 : Dc jdk_65_method_103_code 13 (.iastore) 1 14 := ⟨(by decide +kernel), rfl⟩
theorem J65m103_14 : Dc jdk_65_method_103_code 14 (.iinc 2 1) 3 17 := ⟨(by decide +kernel), rfl⟩
theorem J65m103_17 : Db jdk_65_method_103_code 17 (.goto (-12)) (-12) 20 5 := ⟨(by decide +kernel), rfl, by decide, by decide⟩
theorem J65m103_20 : Dc jdk_65_method_103_code 20 (.return_) 1 21 := ⟨(by decide +kernel), rfl⟩
theorem ef_J65m103 (m : MethodId) (r : Addr) (v : Int32) : entryFrame m #[(.ref r), (.int v)] 4 = mkF m 0 #[.val (.ref r), .val (.int v), .unset, .unset] [] := by first | (simp [entryFrame, mkF, argsToLocals, Value.category]; done) | rfl
set_option maxRecDepth 65536 in
set_option maxHeartbeats 40000000 in
theorem con_J65m103 (l : Launch) (Z : State) (a0 : Array Value) (hw : Tb tables_1 a0 Z) (r : Addr) (v : Int32) (h0 : Heap) (n0 : Nat) (Z0 : n0 ≤ h0.size) (x0 x1 x2 x3 : Int32) (A_r : AI .int Z h0 r [x0, x1, x2, x3]) (g_r : n0 ≤ r) :
    Con l Z (⟨"java/util/Arrays", "fill", "([II)V"⟩ : MethodName) jdk_65_method_103_code 4 (none) ({ frames := 0, cells := 0, slots := 0, locals := 0 } : Room) #[(.ref r), (.int v)] h0 n0 (fun u h => h0.size ≤ h.size ∧ u = none ∧ AI .int Z h r [v, v, v, v] ∧ Keep h0 h [r]) := by
  refine Con.of (plainFor_of_name (by decide +kernel)) Z0 ?_
  intro K hl hZ hn cx T0 X0
  subst hl hZ hn
  refine Run.cast (ef_J65m103 K.m r v) ?_
  have Kp : Keep h0 h0 [r] := Keep.refl _ _
  refine r_iconst (0) X0 cx J65m103_0 rfl ?_
  refine r_istoreN (fun zz => #[.val (.ref r), .val (.int v), .val (.int zz), .unset]) X0 cx J65m103_1 (fun _ => rfl) (fun i1 e_i1 => ?_)
  subst e_i1
  refine r_aloadN X0 cx J65m103_2 rfl ?_
  refine r_alen X0 cx J65m103_3 A_r (4) rfl ?_
  refine r_istoreN (fun zz => #[.val (.ref r), .val (.int v), .val (.int (0 : Int32)), .val (.int zz)]) X0 cx J65m103_4 (fun _ => rfl) (fun i2 e_i2 => ?_)
  subst e_i2
  refine r_iloadN X0 cx J65m103_5 rfl ?_
  refine r_iloadN X0 cx J65m103_6 rfl ?_
  refine r_icmpge X0 cx J65m103_7 (fun c => absurd c (by decide)) (fun _ => ?_)
  refine r_aloadN X0 cx J65m103_10 rfl ?_
  refine r_iloadN X0 cx J65m103_11 rfl ?_
  refine r_iloadN X0 cx J65m103_12 rfl ?_
  refine r_iastore X0 cx J65m103_13 A_r (0) rfl (ltb rfl) g_r (fun T3 h3 X3 W3 N3 => ?_)
  replace Kp := Kp.wr W3 (Or.inl (by simp))
  have A_r : AI .int K.Z h3 r [v, x1, x2, x3] := N3
  refine r_iinc (1 : Int32) (fun zz => #[.val (.ref r), .val (.int v), .val (.int zz), .val (.int (4 : Int32))]) X3 cx J65m103_14 rfl rfl (fun _ => rfl) (fun i4 e_i4 => ?_)
  obtain rfl : i4 = (1 : Int32) := e_i4
  refine r_goto X3 cx J65m103_17 ?_
  refine r_iloadN X3 cx J65m103_5 rfl ?_
  refine r_iloadN X3 cx J65m103_6 rfl ?_
  refine r_icmpge X3 cx J65m103_7 (fun c => absurd c (by decide)) (fun _ => ?_)
  refine r_aloadN X3 cx J65m103_10 rfl ?_
  refine r_iloadN X3 cx J65m103_11 rfl ?_
  refine r_iloadN X3 cx J65m103_12 rfl ?_
  refine r_iastore X3 cx J65m103_13 A_r (1) rfl (ltb rfl) g_r (fun T5 h5 X5 W5 N5 => ?_)
  replace Kp := Kp.wr W5 (Or.inl (by simp))
  have A_r : AI .int K.Z h5 r [v, v, x2, x3] := N5
  refine r_iinc (1 : Int32) (fun zz => #[.val (.ref r), .val (.int v), .val (.int zz), .val (.int (4 : Int32))]) X5 cx J65m103_14 rfl rfl (fun _ => rfl) (fun i6 e_i6 => ?_)
  obtain rfl : i6 = (2 : Int32) := e_i6
  refine r_goto X5 cx J65m103_17 ?_
  refine r_iloadN X5 cx J65m103_5 rfl ?_
  refine r_iloadN X5 cx J65m103_6 rfl ?_
  refine r_icmpge X5 cx J65m103_7 (fun c => absurd c (by decide)) (fun _ => ?_)
  refine r_aloadN X5 cx J65m103_10 rfl ?_
  refine r_iloadN X5 cx J65m103_11 rfl ?_
  refine r_iloadN X5 cx J65m103_12 rfl ?_
  refine r_iastore X5 cx J65m103_13 A_r (2) rfl (ltb rfl) g_r (fun T7 h7 X7 W7 N7 => ?_)
  replace Kp := Kp.wr W7 (Or.inl (by simp))
  have A_r : AI .int K.Z h7 r [v, v, v, x3] := N7
  refine r_iinc (1 : Int32) (fun zz => #[.val (.ref r), .val (.int v), .val (.int zz), .val (.int (4 : Int32))]) X7 cx J65m103_14 rfl rfl (fun _ => rfl) (fun i8 e_i8 => ?_)
  obtain rfl : i8 = (3 : Int32) := e_i8
  refine r_goto X7 cx J65m103_17 ?_
  refine r_iloadN X7 cx J65m103_5 rfl ?_
  refine r_iloadN X7 cx J65m103_6 rfl ?_
  refine r_icmpge X7 cx J65m103_7 (fun c => absurd c (by decide)) (fun _ => ?_)
  refine r_aloadN X7 cx J65m103_10 rfl ?_
  refine r_iloadN X7 cx J65m103_11 rfl ?_
  refine r_iloadN X7 cx J65m103_12 rfl ?_
  refine r_iastore X7 cx J65m103_13 A_r (3) rfl (ltb rfl) g_r (fun T9 h9 X9 W9 N9 => ?_)
  replace Kp := Kp.wr W9 (Or.inl (by simp))
  have A_r : AI .int K.Z h9 r [v, v, v, v] := N9
  refine r_iinc (1 : Int32) (fun zz => #[.val (.ref r), .val (.int v), .val (.int zz), .val (.int (4 : Int32))]) X9 cx J65m103_14 rfl rfl (fun _ => rfl) (fun i10 e_i10 => ?_)
  obtain rfl : i10 = (4 : Int32) := e_i10
  refine r_goto X9 cx J65m103_17 ?_
  refine r_iloadN X9 cx J65m103_5 rfl ?_
  refine r_iloadN X9 cx J65m103_6 rfl ?_
  refine r_icmpge X9 cx J65m103_7 (fun _ => ?_) (fun c => absurd c (by decide))
  refine r_return X9 cx J65m103_20 (by decide) (by decide) ?_
  exact ⟨Kp.1, rfl, A_r, Kp⟩
theorem P61m1_0 : Dc prog_61_method_1_code 0 (.aload_n 0) 1 1 := ⟨(by decide +kernel), rfl⟩
theorem P61m1_1 : Dc prog_61_method_1_code 1 (.invokespecial 1) 3 4 := ⟨(by decide +kernel), rfl⟩
theorem P61m1_4 : Dc prog_61_method_1_code 4 (.aload_n 0) 1 5 := ⟨(by decide +kernel), rfl⟩
theorem P61m1_5 : Dc prog_61_method_1_code 5 (.iload_n 1) 1 6 := ⟨(by decide +kernel), rfl⟩
theorem P61m1_6 : Dc prog_61_method_1_code 6 (.newarray .int) 2 8 := ⟨(by decide +kernel), rfl⟩
theorem P61m1_8 : Dc prog_61_method_1_code 8 (.putfield 7) 3 11 := ⟨(by decide +kernel), rfl⟩
theorem P61m1_11 : Dc prog_61_method_1_code 11 (.aload_n 0) 1 12 := ⟨(by decide +kernel), rfl⟩
theorem P61m1_12 : Dc prog_61_method_1_code 12 (.iload_n 1) 1 13 := ⟨(by decide +kernel), rfl⟩
theorem P61m1_13 : Dc prog_61_method_1_code 13 (.newarray .long) 2 15 := ⟨(by decide +kernel), rfl⟩
theorem P61m1_15 : Dc prog_61_method_1_code 15 (.putfield 13) 3 18 := ⟨(by decide +kernel), rfl⟩
theorem P61m1_18 : Dc prog_61_method_1_code 18 (.aload_n 0) 1 19 := ⟨(by decide +kernel), rfl⟩
theorem P61m1_19 : Dc prog_61_method_1_code 19 (.iload_n 1) 1 20 := ⟨(by decide +kernel), rfl⟩
theorem P61m1_20 : Dc prog_61_method_1_code 20 (.iconst 1) 1 21 := ⟨(by decide +kernel), rfl⟩
theorem P61m1_21 : Dc prog_61_method_1_code 21 (.iadd) 1 22 := ⟨(by decide +kernel), rfl⟩
theorem P61m1_22 : Dc prog_61_method_1_code 22 (.newarray .int) 2 24 := ⟨(by decide +kernel), rfl⟩
theorem P61m1_24 : Dc prog_61_method_1_code 24 (.putfield 17) 3 27 := ⟨(by decide +kernel), rfl⟩
theorem P61m1_27 : Dc prog_61_method_1_code 27 (.aload_n 0) 1 28 := ⟨(by decide +kernel), rfl⟩
theorem P61m1_28 : Dc prog_61_method_1_code 28 (.getfield 17) 3 31 := ⟨(by decide +kernel), rfl⟩
theorem P61m1_31 : Dc prog_61_method_1_code 31 (.iconst (-1)) 1 32 := ⟨(by decide +kernel), rfl⟩
theorem P61m1_32 : Dc prog_61_method_1_code 32 (.invokestatic 20) 3 35 := ⟨(by decide +kernel), rfl⟩
theorem P61m1_35 : Dc prog_61_method_1_code 35 (.return_) 1 36 := ⟨(by decide +kernel), rfl⟩
theorem ef_P61m1 (m : MethodId) (o : Addr) : entryFrame m #[(.ref o), (.int (3 : Int32))] 2 = mkF m 0 #[.val (.ref o), .val (.int (3 : Int32))] [] := by first | (simp [entryFrame, mkF, argsToLocals, Value.category]; done) | rfl
set_option maxRecDepth 65536 in
set_option maxHeartbeats 40000000 in
theorem con_P61m1 (l : Launch) (Z : State) (a0 : Array Value) (hw : Tb tables_1 a0 Z) (o : Addr) (h0 : Heap) (n0 : Nat) (Z0 : n0 ≤ h0.size) (E_o : Exa Z h0 o "com/example/lacewood/lacewood/paths/NodeHeap") (F_nodes : Fld Z h0 o "com/example/lacewood/lacewood/paths/NodeHeap" "nodes" "[I" .null) (F_keys : Fld Z h0 o "com/example/lacewood/lacewood/paths/NodeHeap" "keys" "[J" .null) (F_positionOf : Fld Z h0 o "com/example/lacewood/lacewood/paths/NodeHeap" "positionOf" "[I" .null) (F_size : Fld Z h0 o "com/example/lacewood/lacewood/paths/NodeHeap" "size" "I" (.int 0)) (g_o : n0 ≤ o) :
    Con l Z (⟨"com/example/lacewood/lacewood/paths/NodeHeap", "<init>", "(I)V"⟩ : MethodName) prog_61_method_1_code 2 (none) ({ frames := 1, cells := 3, slots := 10, locals := 16 } : Room) #[(.ref o), (.int (3 : Int32))] h0 n0 (fun u h => h0.size ≤ h.size ∧ u = none ∧ ∃ an ak ap, NH Z n0 h o an ak ap [0, 0, 0] [0, 0, 0] [-1, -1, -1, -1] 0) := by
  refine Con.of (plainFor_of_name (by decide +kernel)) Z0 ?_
  intro K hl hZ hn cx T0 X0
  subst hl hZ hn
  refine Run.cast (ef_P61m1 K.m o) ?_
  have Kp : Keep h0 h0 [o] := Keep.refl _ _
  refine r_aloadN X0 cx P61m1_0 rfl ?_
  refine r_initO X0 cx P61m1_1 (hw.get 7 rfl) (hw.get 8 rfl) (hw.get 9 rfl) rfl (by decide) (leb rfl) (fun T1 X1 => ?_)
  refine r_aloadN X1 cx P61m1_4 rfl ?_
  refine r_iloadN X1 cx P61m1_5 rfl ?_
  refine r_newarray X1 cx P61m1_6 (hw.get 10 rfl) (3) 3 rfl (Nat.le_refl _) (by decide) (by decide) (by decide) (fun T2 h2 an ea2 g_an X2 Ex2 A2 => ?_)
  have fr_an : h0.size ≤ an := fr_new ea2 Kp.1
  replace Kp := Kp.ext Ex2
  have ne_an_o : an ≠ o := ne_new ea2 E_o.lt
  replace F_nodes := F_nodes.ext Ex2
  replace F_keys := F_keys.ext Ex2
  replace F_positionOf := F_positionOf.ext Ex2
  replace F_size := F_size.ext Ex2
  replace E_o := E_o.ext Ex2
  have A_an : AI .int K.Z h2 an [0, 0, 0] := AI.new A2
  refine r_putfield X2 cx P61m1_8 (hw.get 11 rfl) F_nodes E_o (Or.inr ⟨(hw.get 12 rfl), rfl, rfl⟩) (hw.get 2 rfl) (ty := .array .int) (by decide) rfl rfl g_o (fun T3 h3 X3 W3 N3 => ?_)
  replace Kp := Kp.wr W3 (Or.inl (by simp))
  replace F_keys := F_keys.other W3 (Or.inr (slot_ne (Or.inr (hw.get 15 rfl)) (Or.inr (hw.get 12 rfl)) (by decide) (t := .array .long) (t' := .array .int) (by decide) (by decide)))
  replace F_positionOf := F_positionOf.other W3 (Or.inr (slot_ne (Or.inr (hw.get 17 rfl)) (Or.inr (hw.get 12 rfl)) (by decide) (t := .array .int) (t' := .array .int) (by decide) (by decide)))
  replace F_size := F_size.other W3 (Or.inr (slot_ne (Or.inl (hw.get 28 rfl)) (Or.inr (hw.get 12 rfl)) (by decide) (t := .int) (t' := .array .int) (by decide) (by decide)))
  replace E_o := E_o.wr W3
  replace A_an := A_an.other W3 ne_an_o
  have F_nodes := N3
  refine r_aloadN X3 cx P61m1_11 rfl ?_
  refine r_iloadN X3 cx P61m1_12 rfl ?_
  refine r_newarray X3 cx P61m1_13 (hw.get 13 rfl) (3) 3 rfl (Nat.le_refl _) (by decide) (by decide) (by decide) (fun T4 h4 ak ea4 g_ak X4 Ex4 A4 => ?_)
  have fr_ak : h0.size ≤ ak := fr_new ea4 Kp.1
  replace Kp := Kp.ext Ex4
  have ne_ak_o : ak ≠ o := ne_new ea4 E_o.lt
  have ne_ak_an : ak ≠ an := ne_new ea4 A_an.lt
  replace F_nodes := F_nodes.ext Ex4
  replace F_keys := F_keys.ext Ex4
  replace F_positionOf := F_positionOf.ext Ex4
  replace F_size := F_size.ext Ex4
  replace E_o := E_o.ext Ex4
  replace A_an := A_an.ext Ex4
  have A_ak : AJ K.Z h4 ak [0, 0, 0] := AJ.new A4
  refine r_putfield X4 cx P61m1_15 (hw.get 14 rfl) F_keys E_o (Or.inr ⟨(hw.get 15 rfl), rfl, rfl⟩) (hw.get 2 rfl) (ty := .array .long) (by decide) rfl rfl g_o (fun T5 h5 X5 W5 N5 => ?_)
  replace Kp := Kp.wr W5 (Or.inl (by simp))
  replace F_nodes := F_nodes.other W5 (Or.inr (slot_ne (Or.inr (hw.get 12 rfl)) (Or.inr (hw.get 15 rfl)) (by decide) (t := .array .int) (t' := .array .long) (by decide) (by decide)))
  replace F_positionOf := F_positionOf.other W5 (Or.inr (slot_ne (Or.inr (hw.get 17 rfl)) (Or.inr (hw.get 15 rfl)) (by decide) (t := .array .int) (t' := .array .long) (by decide) (by decide)))
  replace F_size := F_size.other W5 (Or.inr (slot_ne (Or.inl (hw.get 28 rfl)) (Or.inr (hw.get 15 rfl)) (by decide) (t := .int) (t' := .array .long) (by decide) (by decide)))
  replace E_o := E_o.wr W5
  replace A_an := A_an.other W5 ne_an_o
  replace A_ak := A_ak.other W5 ne_ak_o
  have F_keys := N5
  refine r_aloadN X5 cx P61m1_18 rfl ?_
  refine r_iloadN X5 cx P61m1_19 rfl ?_
  refine r_iconst (1) X5 cx P61m1_20 rfl ?_
  refine r_iadd X5 cx P61m1_21 ?_
  refine r_top (v' := 4) (by decide) ?_
  refine r_newarray X5 cx P61m1_22 (hw.get 10 rfl) (4) 4 rfl (Nat.le_refl _) (by decide) (by decide) (by decide) (fun T6 h6 ap ea6 g_ap X6 Ex6 A6 => ?_)
  have fr_ap : h0.size ≤ ap := fr_new ea6 Kp.1
  replace Kp := Kp.ext Ex6
  have ne_ap_o : ap ≠ o := ne_new ea6 E_o.lt
  have ne_ap_an : ap ≠ an := ne_new ea6 A_an.lt
  have ne_ap_ak : ap ≠ ak := ne_new ea6 A_ak.lt
  replace F_nodes := F_nodes.ext Ex6
  replace F_keys := F_keys.ext Ex6
  replace F_positionOf := F_positionOf.ext Ex6
  replace F_size := F_size.ext Ex6
  replace E_o := E_o.ext Ex6
  replace A_an := A_an.ext Ex6
  replace A_ak := A_ak.ext Ex6
  have A_ap : AI .int K.Z h6 ap [0, 0, 0, 0] := AI.new A6
  refine r_putfield X6 cx P61m1_24 (hw.get 16 rfl) F_positionOf E_o (Or.inr ⟨(hw.get 17 rfl), rfl, rfl⟩) (hw.get 2 rfl) (ty := .array .int) (by decide) rfl rfl g_o (fun T7 h7 X7 W7 N7 => ?_)
  replace Kp := Kp.wr W7 (Or.inl (by simp))
  replace F_nodes := F_nodes.other W7 (Or.inr (slot_ne (Or.inr (hw.get 12 rfl)) (Or.inr (hw.get 17 rfl)) (by decide) (t := .array .int) (t' := .array .int) (by decide) (by decide)))
  replace F_keys := F_keys.other W7 (Or.inr (slot_ne (Or.inr (hw.get 15 rfl)) (Or.inr (hw.get 17 rfl)) (by decide) (t := .array .long) (t' := .array .int) (by decide) (by decide)))
  replace F_size := F_size.other W7 (Or.inr (slot_ne (Or.inl (hw.get 28 rfl)) (Or.inr (hw.get 17 rfl)) (by decide) (t := .int) (t' := .array .int) (by decide) (by decide)))
  replace E_o := E_o.wr W7
  replace A_an := A_an.other W7 ne_an_o
  replace A_ak := A_ak.other W7 ne_ak_o
  replace A_ap := A_ap.other W7 ne_ap_o
  have F_positionOf := N7
  refine r_aloadN X7 cx P61m1_27 rfl ?_
  refine r_getfield X7 cx P61m1_28 (hw.get 16 rfl) F_positionOf (fun T8 X8 => ?_)
  refine r_iconst (-1) X8 cx P61m1_31 rfl ?_
  refine r_static [(.ref ap), (.int (-1 : Int32))] [] X8 cx P61m1_32 (hw.get 18 rfl) (hw.get 19 rfl) (hw.get 20 rfl) (hw.get 21 rfl) (by decide) (con_J65m103 K.l K.Z a0 hw ap (-1) h7 K.n0 X8.ge 0 0 0 0 A_ap g_ap) (lenOf pd_0 rfl) rfl rfl (by decide) (leb rfl) (by decide) (by decide) (fun T9 h9 v9 X9 q9 => ?_) (fun _ _ q => q.1)
  obtain ⟨z9, rfl, A_ap2, Kf⟩ := q9
  have ni : ∀ x : Addr, x ≠ ap → x ∉ [ap] := fun x q => ninS q nin0
  replace F_nodes := F_nodes.keep Kf (ni _ ne_ap_o.symm)
  replace F_keys := F_keys.keep Kf (ni _ ne_ap_o.symm)
  replace F_positionOf := F_positionOf.keep Kf (ni _ ne_ap_o.symm)
  replace F_size := F_size.keep Kf (ni _ ne_ap_o.symm)
  replace E_o := E_o.keep Kf
  replace A_an := A_an.keep Kf (ni _ ne_ap_an.symm)
  replace A_ak := A_ak.keep Kf (ni _ ne_ap_ak.symm)
  refine r_return X9 cx P61m1_35 (by decide) (by decide) ?_
  exact ⟨Nat.le_trans Kp.1 z9, rfl, an, ak, ap, E_o, F_nodes, F_keys, F_positionOf, F_size, A_an, A_ak, A_ap2, ne_an_o.symm, ne_ak_o.symm, ne_ap_o.symm, ne_ak_an.symm, ne_ap_an.symm, ne_ap_ak.symm, g_o, g_an, g_ak, g_ap⟩
theorem P61m2_0 : Dc prog_61_method_2_code 0 (.aload_n 0) 1 1 := ⟨(by decide +kernel), rfl⟩
theorem P61m2_1 : Dc prog_61_method_2_code 1 (.getfield 26) 3 4 := ⟨(by decide +kernel), rfl⟩
theorem P61m2_4 : Db prog_61_method_2_code 4 (.ifCond .ne 7) (7) 7 11 := ⟨(by decide +kernel), rfl, by decide, by decide⟩
theorem P61m2_7 : Dc prog_61_method_2_code 7 (.iconst 1) 1 8 := ⟨(by decide +kernel), rfl⟩
theorem P61m2_8 : Db prog_61_method_2_code 8 (.goto 4) (4) 11 12 := ⟨(by decide +kernel), rfl, by decide, by decide⟩
theorem P61m2_11 : Dc prog_61_method_2_code 11 (.iconst 0) 1 12 := ⟨(by decide +kernel), rfl⟩
theorem P61m2_12 : Dc prog_61_method_2_code 12 (.ireturn) 1 13 := ⟨(by decide +kernel), rfl⟩
theorem ef_P61m2_0 (m : MethodId) (o : Addr) : entryFrame m #[(.ref o)] 1 = mkF m 0 #[.val (.ref o)] [] := by first | (simp [entryFrame, mkF, argsToLocals, Value.category]; done) | rfl
set_option maxRecDepth 65536 in
set_option maxHeartbeats 40000000 in
theorem con_P61m2_0 (l : Launch) (Z : State) (a0 : Array Value) (hw : Tb tables_1 a0 Z) (o : Addr) (h0 : Heap) (n0 : Nat) (Z0 : n0 ≤ h0.size) (an ak ap : Addr) (ns : List Int32) (ks : List Int64) (ps : List Int32) (B : NH Z n0 h0 o an ak ap ns ks ps 0) :
    Con l Z (⟨"com/example/lacewood/lacewood/paths/NodeHeap", "isEmpty", "()Z"⟩ : MethodName) prog_61_method_2_code 1 (some (.boolean)) ({ frames := 0, cells := 0, slots := 0, locals := 0 } : Room) #[(.ref o)] h0 n0 (fun u h => h0 = h ∧ u = some (.int 1)) := by
  refine Con.of (plainFor_of_name (by decide +kernel)) Z0 ?_
  intro K hl hZ hn cx T0 X0
  subst hl hZ hn
  refine Run.cast (ef_P61m2_0 K.m o) ?_
  obtain ⟨E_o, F_nodes, F_keys, F_positionOf, F_size, A_an, A_ak, A_ap, ne_o_an, ne_o_ak, ne_o_ap, ne_an_ak, ne_an_ap, ne_ak_ap, g_o, g_an, g_ak, g_ap⟩ := B
  refine r_aloadN X0 cx P61m2_0 rfl ?_
  refine r_getfield X0 cx P61m2_1 (hw.get 27 rfl) F_size (fun T1 X1 => ?_)
  refine r_ifne X1 cx P61m2_4 (fun c => absurd c (by decide)) (fun _ => ?_)
  refine r_iconst (1) X1 cx P61m2_7 rfl ?_
  refine r_goto X1 cx P61m2_8 ?_
  refine r_zreturn X1 cx P61m2_12 (by decide) (by decide) ?_
  exact ⟨rfl, rfl⟩
theorem ef_P61m2_1 (m : MethodId) (o : Addr) : entryFrame m #[(.ref o)] 1 = mkF m 0 #[.val (.ref o)] [] := by first | (simp [entryFrame, mkF, argsToLocals, Value.category]; done) | rfl
set_option maxRecDepth 65536 in
set_option maxHeartbeats 40000000 in
theorem con_P61m2_1 (l : Launch) (Z : State) (a0 : Array Value) (hw : Tb tables_1 a0 Z) (o : Addr) (h0 : Heap) (n0 : Nat) (Z0 : n0 ≤ h0.size) (an ak ap : Addr) (ns : List Int32) (ks : List Int64) (ps : List Int32) (B : NH Z n0 h0 o an ak ap ns ks ps 1) :
    Con l Z (⟨"com/example/lacewood/lacewood/paths/NodeHeap", "isEmpty", "()Z"⟩ : MethodName) prog_61_method_2_code 1 (some (.boolean)) ({ frames := 0, cells := 0, slots := 0, locals := 0 } : Room) #[(.ref o)] h0 n0 (fun u h => h0 = h ∧ u = some (.int 0)) := by
  refine Con.of (plainFor_of_name (by decide +kernel)) Z0 ?_
  intro K hl hZ hn cx T0 X0
  subst hl hZ hn
  refine Run.cast (ef_P61m2_1 K.m o) ?_
  obtain ⟨E_o, F_nodes, F_keys, F_positionOf, F_size, A_an, A_ak, A_ap, ne_o_an, ne_o_ak, ne_o_ap, ne_an_ak, ne_an_ap, ne_ak_ap, g_o, g_an, g_ak, g_ap⟩ := B
  refine r_aloadN X0 cx P61m2_0 rfl ?_
  refine r_getfield X0 cx P61m2_1 (hw.get 27 rfl) F_size (fun T1 X1 => ?_)
  refine r_ifne X1 cx P61m2_4 (fun _ => ?_) (fun c => absurd c (by decide))
  refine r_iconst (0) X1 cx P61m2_11 rfl ?_
  refine r_zreturn X1 cx P61m2_12 (by decide) (by decide) ?_
  exact ⟨rfl, rfl⟩
theorem ef_P61m2_2 (m : MethodId) (o : Addr) : entryFrame m #[(.ref o)] 1 = mkF m 0 #[.val (.ref o)] [] := by first | (simp [entryFrame, mkF, argsToLocals, Value.category]; done) | rfl
set_option maxRecDepth 65536 in
set_option maxHeartbeats 40000000 in
theorem con_P61m2_2 (l : Launch) (Z : State) (a0 : Array Value) (hw : Tb tables_1 a0 Z) (o : Addr) (h0 : Heap) (n0 : Nat) (Z0 : n0 ≤ h0.size) (an ak ap : Addr) (ns : List Int32) (ks : List Int64) (ps : List Int32) (B : NH Z n0 h0 o an ak ap ns ks ps 2) :
    Con l Z (⟨"com/example/lacewood/lacewood/paths/NodeHeap", "isEmpty", "()Z"⟩ : MethodName) prog_61_method_2_code 1 (some (.boolean)) ({ frames := 0, cells := 0, slots := 0, locals := 0 } : Room) #[(.ref o)] h0 n0 (fun u h => h0 = h ∧ u = some (.int 0)) := by
  refine Con.of (plainFor_of_name (by decide +kernel)) Z0 ?_
  intro K hl hZ hn cx T0 X0
  subst hl hZ hn
  refine Run.cast (ef_P61m2_2 K.m o) ?_
  obtain ⟨E_o, F_nodes, F_keys, F_positionOf, F_size, A_an, A_ak, A_ap, ne_o_an, ne_o_ak, ne_o_ap, ne_an_ak, ne_an_ap, ne_ak_ap, g_o, g_an, g_ak, g_ap⟩ := B
  refine r_aloadN X0 cx P61m2_0 rfl ?_
  refine r_getfield X0 cx P61m2_1 (hw.get 27 rfl) F_size (fun T1 X1 => ?_)
  refine r_ifne X1 cx P61m2_4 (fun _ => ?_) (fun c => absurd c (by decide))
  refine r_iconst (0) X1 cx P61m2_11 rfl ?_
  refine r_zreturn X1 cx P61m2_12 (by decide) (by decide) ?_
  exact ⟨rfl, rfl⟩
theorem P61m8_0 : Dc prog_61_method_8_code 0 (.aload_n 0) 1 1 := ⟨(by decide +kernel), rfl⟩
theorem P61m8_1 : Dc prog_61_method_8_code 1 (.getfield 7) 3 4 := ⟨(by decide +kernel), rfl⟩
theorem P61m8_4 : Dc prog_61_method_8_code 4 (.iload 4) 2 6 := ⟨(by decide +kernel), rfl⟩
theorem P61m8_6 : Dc prog_61_method_8_code 6 (.iload_n 1) 1 7 := ⟨(by decide +kernel), rfl⟩
theorem P61m8_7 : Dc prog_61_method_8_code 7 (.iastore) 1 8 := ⟨(by decide +kernel), rfl⟩
theorem P61m8_8 : Dc prog_61_method_8_code 8 (.aload_n 0) 1 9 := ⟨(by decide +kernel), rfl⟩
theorem P61m8_9 : Dc prog_61_method_8_code 9 (.getfield 13) 3 12 := ⟨(by decide +kernel), rfl⟩
theorem P61m8_12 : Dc prog_61_method_8_code 12 (.iload 4) 2 14 := ⟨(by decide +kernel), rfl⟩
theorem P61m8_14 : Dc prog_61_method_8_code 14 (.lload_n 2) 1 15 := ⟨(by decide +kernel), rfl⟩
theorem P61m8_15 : Dc prog_61_method_8_code 15 (.lastore) 1 16 := ⟨(by decide +kernel), rfl⟩
theorem P61m8_16 : Dc prog_61_method_8_code 16 (.aload_n 0) 1 17 := ⟨(by decide +kernel), rfl⟩
theorem P61m8_17 : Dc prog_61_method_8_code 17 (.getfield 17) 3 20 := ⟨(by decide +kernel), rfl⟩
theorem P61m8_20 : Dc prog_61_method_8_code 20 (.iload_n 1) 1 21 := ⟨(by decide +kernel), rfl⟩
theorem P61m8_21 : Dc prog_61_method_8_code 21 (.iload 4) 2 23 := ⟨(by decide +kernel), rfl⟩
theorem P61m8_23 : Dc prog_61_method_8_code 23 (.iastore) 1 24 := ⟨(by decide +kernel), rfl⟩
theorem P61m8_24 : Dc prog_61_method_8_code 24 (.return_) 1 25 := ⟨(by decide +kernel), rfl⟩
theorem ef_P61m8 (m : MethodId) (o : Addr) (nd : Int32) (ke : Int64) (po : Int32) : entryFrame m #[(.ref o), (.int nd), (.long ke), (.int po)] 5 = mkF m 0 #[.val (.ref o), .val (.int nd), .val (.long ke), .second, .val (.int po)] [] := by first | (simp [entryFrame, mkF, argsToLocals, Value.category]; done) | rfl
set_option maxRecDepth 65536 in
set_option maxHeartbeats 40000000 in
theorem con_P61m8 (l : Launch) (Z : State) (a0 : Array Value) (hw : Tb tables_1 a0 Z) (o : Addr) (nd : Int32) (ke : Int64) (po : Int32) (h0 : Heap) (n0 : Nat) (Z0 : n0 ≤ h0.size) (an ak ap : Addr) (ns : List Int32) (ks : List Int64) (ps : List Int32) (sz : Int32) (B : NH Z n0 h0 o an ak ap ns ks ps sz) (vn pn : Nat) (ev : nd = Int32.ofNat vn) (ep : po = Int32.ofNat pn) (l1 : pn < ns.length) (l2 : pn < ks.length) (l3 : vn < ps.length) :
    Con l Z (⟨"com/example/lacewood/lacewood/paths/NodeHeap", "place", "(IJI)V"⟩ : MethodName) prog_61_method_8_code 5 (none) ({ frames := 0, cells := 0, slots := 0, locals := 0 } : Room) #[(.ref o), (.int nd), (.long ke), (.int po)] h0 n0 (fun u h => h0.size ≤ h.size ∧ u = none ∧ NH Z n0 h o an ak ap (ns.set pn nd) (ks.set pn ke) (ps.set vn po) sz) := by
  refine Con.of (plainFor_of_name (by decide +kernel)) Z0 ?_
  intro K hl hZ hn cx T0 X0
  subst hl hZ hn
  refine Run.cast (ef_P61m8 K.m o nd ke po) ?_
  obtain ⟨E_o, F_nodes, F_keys, F_positionOf, F_size, A_an, A_ak, A_ap, ne_o_an, ne_o_ak, ne_o_ap, ne_an_ak, ne_an_ap, ne_ak_ap, g_o, g_an, g_ak, g_ap⟩ := B
  have Kp : Keep h0 h0 [an, ak, ap] := Keep.refl _ _
  refine r_aloadN X0 cx P61m8_0 rfl ?_
  refine r_getfield X0 cx P61m8_1 (hw.get 11 rfl) F_nodes (fun T1 X1 => ?_)
  refine r_iload X1 cx P61m8_4 rfl ?_
  refine r_iloadN X1 cx P61m8_6 rfl ?_
  refine r_iastore X1 cx P61m8_7 A_an (pn) ep l1 g_an (fun T2 h2 X2 W2 N2 => ?_)
  replace Kp := Kp.wr W2 (Or.inl (by simp))
  replace F_nodes := F_nodes.other W2 (Or.inl ne_o_an)
  replace F_keys := F_keys.other W2 (Or.inl ne_o_an)
  replace F_positionOf := F_positionOf.other W2 (Or.inl ne_o_an)
  replace F_size := F_size.other W2 (Or.inl ne_o_an)
  replace E_o := E_o.wr W2
  replace A_ak := A_ak.other W2 ne_an_ak.symm
  replace A_ap := A_ap.other W2 ne_an_ap.symm
  have A_an : AI .int K.Z h2 an (ns.set (pn) nd) := N2
  refine r_aloadN X2 cx P61m8_8 rfl ?_
  refine r_getfield X2 cx P61m8_9 (hw.get 14 rfl) F_keys (fun T3 X3 => ?_)
  refine r_iload X3 cx P61m8_12 rfl ?_
  refine r_lloadN X3 cx P61m8_14 rfl ?_
  refine r_lastore X3 cx P61m8_15 A_ak (pn) ep l2 g_ak (fun T4 h4 X4 W4 N4 => ?_)
  replace Kp := Kp.wr W4 (Or.inl (by simp))
  replace F_nodes := F_nodes.other W4 (Or.inl ne_o_ak)
  replace F_keys := F_keys.other W4 (Or.inl ne_o_ak)
  replace F_positionOf := F_positionOf.other W4 (Or.inl ne_o_ak)
  replace F_size := F_size.other W4 (Or.inl ne_o_ak)
  replace E_o := E_o.wr W4
  replace A_an := A_an.other W4 ne_an_ak
  replace A_ap := A_ap.other W4 ne_ak_ap.symm
  have A_ak : AJ K.Z h4 ak (ks.set (pn) ke) := N4
  refine r_aloadN X4 cx P61m8_16 rfl ?_
  refine r_getfield X4 cx P61m8_17 (hw.get 16 rfl) F_positionOf (fun T5 X5 => ?_)
  refine r_iloadN X5 cx P61m8_20 rfl ?_
  refine r_iload X5 cx P61m8_21 rfl ?_
  refine r_iastore X5 cx P61m8_23 A_ap (vn) ev l3 g_ap (fun T6 h6 X6 W6 N6 => ?_)
  replace Kp := Kp.wr W6 (Or.inl (by simp))
  replace F_nodes := F_nodes.other W6 (Or.inl ne_o_ap)
  replace F_keys := F_keys.other W6 (Or.inl ne_o_ap)
  replace F_positionOf := F_positionOf.other W6 (Or.inl ne_o_ap)
  replace F_size := F_size.other W6 (Or.inl ne_o_ap)
  replace E_o := E_o.wr W6
  replace A_an := A_an.other W6 ne_an_ap
  replace A_ak := A_ak.other W6 ne_ak_ap
  have A_ap : AI .int K.Z h6 ap (ps.set (vn) po) := N6
  refine r_return X6 cx P61m8_24 (by decide) (by decide) ?_
  exact ⟨Kp.1, rfl, E_o, F_nodes, F_keys, F_positionOf, F_size, A_an, A_ak, A_ap, ne_o_an, ne_o_ak, ne_o_ap, ne_an_ak, ne_an_ap, ne_ak_ap, g_o, g_an, g_ak, g_ap⟩
theorem P61m6_0 : Dc prog_61_method_6_code 0 (.iload 4) 2 2 := ⟨(by decide +kernel), rfl⟩
theorem P61m6_2 : Dc prog_61_method_6_code 2 (.istore 5) 2 4 := ⟨(by decide +kernel), rfl⟩
theorem P61m6_4 : Dc prog_61_method_6_code 4 (.iload 5) 2 6 := ⟨(by decide +kernel), rfl⟩
theorem P61m6_6 : Db prog_61_method_6_code 6 (.ifCond .le 53) (53) 9 59 := ⟨(by decide +kernel), rfl, by decide, by decide⟩
theorem P61m6_9 : Dc prog_61_method_6_code 9 (.iload 5) 2 11 := ⟨(by decide +kernel), rfl⟩
theorem P61m6_11 : Dc prog_61_method_6_code 11 (.iconst 1) 1 12 := ⟨(by decide +kernel), rfl⟩
theorem P61m6_12 : Dc prog_61_method_6_code 12 (.isub) 1 13 := ⟨(by decide +kernel), rfl⟩
theorem P61m6_13 : Dc prog_61_method_6_code 13 (.iconst 1) 1 14 := ⟨(by decide +kernel), rfl⟩
theorem P61m6_14 : Dc prog_61_method_6_code 14 (.iushr) 1 15 := ⟨(by decide +kernel), rfl⟩
theorem P61m6_15 : Dc prog_61_method_6_code 15 (.istore 6) 2 17 := ⟨(by decide +kernel), rfl⟩
theorem P61m6_17 : Dc prog_61_method_6_code 17 (.aload_n 0) 1 18 := ⟨(by decide +kernel), rfl⟩
theorem P61m6_18 : Dc prog_61_method_6_code 18 (.getfield 13) 3 21 := ⟨(by decide +kernel), rfl⟩
theorem P61m6_21 : Dc prog_61_method_6_code 21 (.iload 6) 2 23 := ⟨(by decide +kernel), rfl⟩
theorem P61m6_23 : Dc prog_61_method_6_code 23 (.laload) 1 24 := ⟨(by decide +kernel), rfl⟩
theorem P61m6_24 : Dc prog_61_method_6_code 24 (.lload_n 2) 1 25 := ⟨(by decide +kernel), rfl⟩
theorem P61m6_25 : Dc prog_61_method_6_code 25 (.lcmp) 1 26 := ⟨(by decide +kernel), rfl⟩
theorem P61m6_26 : Db prog_61_method_6_code 26 (.ifCond .gt 6) (6) 29 32 := ⟨(by decide +kernel), rfl, by decide, by decide⟩
theorem P61m6_29 : Db prog_61_method_6_code 29 (.goto 30) (30) 32 59 := ⟨(by decide +kernel), rfl, by decide, by decide⟩
theorem P61m6_32 : Dc prog_61_method_6_code 32 (.aload_n 0) 1 33 := ⟨(by decide +kernel), rfl⟩
theorem P61m6_33 : Dc prog_61_method_6_code 33 (.aload_n 0) 1 34 := ⟨(by decide +kernel), rfl⟩
theorem P61m6_34 : Dc prog_61_method_6_code 34 (.getfield 7) 3 37 := ⟨(by decide +kernel), rfl⟩
theorem P61m6_37 : Dc prog_61_method_6_code 37 (.iload 6) 2 39 := ⟨(by decide +kernel), rfl⟩
theorem P61m6_39 : Dc prog_61_method_6_code 39 (.iaload) 1 40 := ⟨(by decide +kernel), rfl⟩
theorem P61m6_40 : Dc prog_61_method_6_code 40 (.aload_n 0) 1 41 := ⟨(by decide +kernel), rfl⟩
theorem P61m6_41 : Dc prog_61_method_6_code 41 (.getfield 13) 3 44 := ⟨(by decide +kernel), rfl⟩
theorem P61m6_44 : Dc prog_61_method_6_code 44 (.iload 6) 2 46 := ⟨(by decide +kernel), rfl⟩
theorem P61m6_46 : Dc prog_61_method_6_code 46 (.laload) 1 47 := ⟨(by decide +kernel), rfl⟩
theorem P61m6_47 : Dc prog_61_method_6_code 47 (.iload 5) 2 49 := ⟨(by decide +kernel), rfl⟩
theorem P61m6_49 : Dc prog_61_method_6_code 49 (.invokevirtual 37) 3 52 := ⟨(by decide +kernel), rfl⟩
theorem P61m6_52 : Dc prog_61_method_6_code 52 (.iload 6) 2 54 := ⟨(by decide +kernel), rfl⟩
theorem P61m6_54 : Dc prog_61_method_6_code 54 (.istore 5) 2 56 := ⟨(by decide +kernel), rfl⟩
theorem P61m6_56 : Db prog_61_method_6_code 56 (.goto (-52)) (-52) 59 4 := ⟨(by decide +kernel), rfl, by decide, by decide⟩
theorem P61m6_59 : Dc prog_61_method_6_code 59 (.aload_n 0) 1 60 := ⟨(by decide +kernel), rfl⟩
theorem P61m6_60 : Dc prog_61_method_6_code 60 (.iload_n 1) 1 61 := ⟨(by decide +kernel), rfl⟩
theorem P61m6_61 : Dc prog_61_method_6_code 61 (.lload_n 2) 1 62 := ⟨(by decide +kernel), rfl⟩
theorem P61m6_62 : Dc prog_61_method_6_code 62 (.iload 5) 2 64 := ⟨(by decide +kernel), rfl⟩
theorem P61m6_64 : Dc prog_61_method_6_code 64 (.invokevirtual 37) 3 67 := ⟨(by decide +kernel), rfl⟩
theorem P61m6_67 : Dc prog_61_method_6_code 67 (.return_) 1 68 := ⟨(by decide +kernel), rfl⟩
theorem ef_P61m6_0 (m : MethodId) (o : Addr) (nd : Int32) (ke : Int64) : entryFrame m #[(.ref o), (.int nd), (.long ke), (.int (0 : Int32))] 7 = mkF m 0 #[.val (.ref o), .val (.int nd), .val (.long ke), .second, .val (.int (0 : Int32)), .unset, .unset] [] := by first | (simp [entryFrame, mkF, argsToLocals, Value.category]; done) | rfl
set_option maxRecDepth 65536 in
set_option maxHeartbeats 40000000 in
theorem con_P61m6_0 (l : Launch) (Z : State) (a0 : Array Value) (hw : Tb tables_1 a0 Z) (o : Addr) (nd : Int32) (ke : Int64) (h0 : Heap) (n0 : Nat) (Z0 : n0 ≤ h0.size) (an ak ap : Addr) (m0 m1 m2 : Int32) (k0 k1 k2 : Int64) (ps : List Int32) (hpl : ps.length = 4) (sz : Int32) (B : NH Z n0 h0 o an ak ap [m0, m1, m2] [k0, k1, k2] ps sz) (vn v0 : Nat) (ev : nd = Int32.ofNat vn) (e0 : m0 = Int32.ofNat v0) (hvn : vn < 4) (hv0 : v0 < 4) :
    Con l Z (⟨"com/example/lacewood/lacewood/paths/NodeHeap", "siftUp", "(IJI)V"⟩ : MethodName) prog_61_method_6_code 7 (none) ({ frames := 1, cells := 0, slots := 0, locals := 16 } : Room) #[(.ref o), (.int nd), (.long ke), (.int (0 : Int32))] h0 n0 (fun u h => h0.size ≤ h.size ∧ u = none ∧ (NH Z n0 h o an ak ap [nd, m1, m2] [ke, k1, k2] (ps.set vn 0) sz)) := by
  refine Con.of (plainFor_of_name (by decide +kernel)) Z0 ?_
  intro K hl hZ hn cx T0 X0
  subst hl hZ hn
  refine Run.cast (ef_P61m6_0 K.m o nd ke) ?_
  obtain ⟨E_o, F_nodes, F_keys, F_positionOf, F_size, A_an, A_ak, A_ap, ne_o_an, ne_o_ak, ne_o_ap, ne_an_ak, ne_an_ap, ne_ak_ap, g_o, g_an, g_ak, g_ap⟩ := B
  refine r_iload X0 cx P61m6_0 rfl ?_
  refine r_istore (fun zz => #[.val (.ref o), .val (.int nd), .val (.long ke), .second, .val (.int (0 : Int32)), .val (.int zz), .unset]) X0 cx P61m6_2 (fun _ => rfl) (fun i1 e_i1 => ?_)
  subst e_i1
  refine r_iload X0 cx P61m6_4 rfl ?_
  refine r_ifle X0 cx P61m6_6 (fun _ => ?_) (fun c => absurd c (by decide))
  refine r_aloadN X0 cx P61m6_59 rfl ?_
  refine r_iloadN X0 cx P61m6_60 rfl ?_
  refine r_lloadN X0 cx P61m6_61 rfl ?_
  refine r_iload X0 cx P61m6_62 rfl ?_
  refine r_private [(.int nd), (.long ke), (.int (0 : Int32))] [] X0 cx P61m6_64 E_o (hw.get 38 rfl) (hw.get 25 rfl) (hw.get 39 rfl) (hw.get 40 rfl) (hw.get 3 rfl) (hw.get 41 rfl) rfl (by decide) (con_P61m8 K.l K.Z a0 hw o nd ke (0 : Int32) h0 K.n0 X0.ge an ak ap [m0, m1, m2] [k0, k1, k2] ps sz ⟨E_o, F_nodes, F_keys, F_positionOf, F_size, A_an, A_ak, A_ap, ne_o_an, ne_o_ak, ne_o_ap, ne_an_ak, ne_an_ap, ne_ak_ap, g_o, g_an, g_ak, g_ap⟩ vn 0 ev rfl (ltb rfl) (ltb rfl) (by first | omega | (simp only [List.length_set]; omega))) (lenOf pd_1 rfl) rfl rfl (by decide) (leb rfl) (by decide) (by decide) (fun T2 h2 v2 X2 q2 => ?_) (fun _ _ q => q.1)
  obtain ⟨z2, rfl, B2⟩ := q2
  replace B2 : NH K.Z K.n0 h2 o an ak ap [nd, m1, m2] [ke, k1, k2] (ps.set vn (0 : Int32)) sz := B2
  obtain ⟨E_o, F_nodes, F_keys, F_positionOf, F_size, A_an, A_ak, A_ap, ne_o_an, ne_o_ak, ne_o_ap, ne_an_ak, ne_an_ap, ne_ak_ap, g_o, g_an, g_ak, g_ap⟩ := B2
  refine r_return X2 cx P61m6_67 (by decide) (by decide) ?_
  exact ⟨z2, rfl, ⟨E_o, F_nodes, F_keys, F_positionOf, F_size, A_an, A_ak, A_ap, ne_o_an, ne_o_ak, ne_o_ap, ne_an_ak, ne_an_ap, ne_ak_ap, g_o, g_an, g_ak, g_ap⟩⟩
theorem ef_P61m6_1 (m : MethodId) (o : Addr) (nd : Int32) (ke : Int64) : entryFrame m #[(.ref o), (.int nd), (.long ke), (.int (1 : Int32))] 7 = mkF m 0 #[.val (.ref o), .val (.int nd), .val (.long ke), .second, .val (.int (1 : Int32)), .unset, .unset] [] := by first | (simp [entryFrame, mkF, argsToLocals, Value.category]; done) | rfl
set_option maxRecDepth 65536 in
set_option maxHeartbeats 40000000 in
theorem con_P61m6_1 (l : Launch) (Z : State) (a0 : Array Value) (hw : Tb tables_1 a0 Z) (o : Addr) (nd : Int32) (ke : Int64) (h0 : Heap) (n0 : Nat) (Z0 : n0 ≤ h0.size) (an ak ap : Addr) (m0 m1 m2 : Int32) (k0 k1 k2 : Int64) (ps : List Int32) (hpl : ps.length = 4) (sz : Int32) (B : NH Z n0 h0 o an ak ap [m0, m1, m2] [k0, k1, k2] ps sz) (vn v0 : Nat) (ev : nd = Int32.ofNat vn) (e0 : m0 = Int32.ofNat v0) (hvn : vn < 4) (hv0 : v0 < 4) :
    Con l Z (⟨"com/example/lacewood/lacewood/paths/NodeHeap", "siftUp", "(IJI)V"⟩ : MethodName) prog_61_method_6_code 7 (none) ({ frames := 1, cells := 0, slots := 0, locals := 16 } : Room) #[(.ref o), (.int nd), (.long ke), (.int (1 : Int32))] h0 n0 (fun u h => h0.size ≤ h.size ∧ u = none ∧ ((ke < k0 ∧ NH Z n0 h o an ak ap [nd, m0, m2] [ke, k0, k2] ((ps.set v0 1).set vn 0) sz) ∨ (¬ ke < k0 ∧ NH Z n0 h o an ak ap [m0, nd, m2] [k0, ke, k2] (ps.set vn 1) sz))) := by
  refine Con.of (plainFor_of_name (by decide +kernel)) Z0 ?_
  intro K hl hZ hn cx T0 X0
  subst hl hZ hn
  refine Run.cast (ef_P61m6_1 K.m o nd ke) ?_
  obtain ⟨E_o, F_nodes, F_keys, F_positionOf, F_size, A_an, A_ak, A_ap, ne_o_an, ne_o_ak, ne_o_ap, ne_an_ak, ne_an_ap, ne_ak_ap, g_o, g_an, g_ak, g_ap⟩ := B
  refine r_iload X0 cx P61m6_0 rfl ?_
  refine r_istore (fun zz => #[.val (.ref o), .val (.int nd), .val (.long ke), .second, .val (.int (1 : Int32)), .val (.int zz), .unset]) X0 cx P61m6_2 (fun _ => rfl) (fun i1 e_i1 => ?_)
  subst e_i1
  refine r_iload X0 cx P61m6_4 rfl ?_
  refine r_ifle X0 cx P61m6_6 (fun c => absurd c (by decide)) (fun _ => ?_)
  refine r_iload X0 cx P61m6_9 rfl ?_
  refine r_iconst (1) X0 cx P61m6_11 rfl ?_
  refine r_isub X0 cx P61m6_12 ?_
  refine r_top (v' := 0) (by decide) ?_
  refine r_iconst (1) X0 cx P61m6_13 rfl ?_
  refine r_iushr X0 cx P61m6_14 ?_
  refine r_top (v' := 0) (by decide) ?_
  refine r_istore (fun zz => #[.val (.ref o), .val (.int nd), .val (.long ke), .second, .val (.int (1 : Int32)), .val (.int (1 : Int32)), .val (.int zz)]) X0 cx P61m6_15 (fun _ => rfl) (fun i2 e_i2 => ?_)
  subst e_i2
  refine r_aloadN X0 cx P61m6_17 rfl ?_
  refine r_getfield X0 cx P61m6_18 (hw.get 14 rfl) F_keys (fun T3 X3 => ?_)
  refine r_iload X3 cx P61m6_21 rfl ?_
  refine r_laload X3 cx P61m6_23 A_ak (0) rfl (v := k0) rfl ?_
  refine r_lloadN X3 cx P61m6_24 rfl ?_
  refine r_lcmp X3 cx P61m6_25 ?_
  refine r_lcmpgt X3 cx P61m6_26 (fun c26 => ?_) (fun c26 => ?_)
  · refine r_aloadN X3 cx P61m6_32 rfl ?_
    refine r_aloadN X3 cx P61m6_33 rfl ?_
    refine r_getfield X3 cx P61m6_34 (hw.get 11 rfl) F_nodes (fun T4 X4 => ?_)
    refine r_iload X4 cx P61m6_37 rfl ?_
    refine r_iaload X4 cx P61m6_39 A_an (0) rfl (v := m0) rfl ?_
    refine r_aloadN X4 cx P61m6_40 rfl ?_
    refine r_getfield X4 cx P61m6_41 (hw.get 14 rfl) F_keys (fun T5 X5 => ?_)
    refine r_iload X5 cx P61m6_44 rfl ?_
    refine r_laload X5 cx P61m6_46 A_ak (0) rfl (v := k0) rfl ?_
    refine r_iload X5 cx P61m6_47 rfl ?_
    refine r_private [(.int m0), (.long k0), (.int (1 : Int32))] [] X5 cx P61m6_49 E_o (hw.get 38 rfl) (hw.get 25 rfl) (hw.get 39 rfl) (hw.get 40 rfl) (hw.get 3 rfl) (hw.get 41 rfl) rfl (by decide) (con_P61m8 K.l K.Z a0 hw o m0 k0 (1 : Int32) h0 K.n0 X5.ge an ak ap [m0, m1, m2] [k0, k1, k2] ps sz ⟨E_o, F_nodes, F_keys, F_positionOf, F_size, A_an, A_ak, A_ap, ne_o_an, ne_o_ak, ne_o_ap, ne_an_ak, ne_an_ap, ne_ak_ap, g_o, g_an, g_ak, g_ap⟩ v0 1 e0 rfl (ltb rfl) (ltb rfl) (by first | omega | (simp only [List.length_set]; omega))) (lenOf pd_1 rfl) rfl rfl (by decide) (leb rfl) (by decide) (by decide) (fun T6 h6 v6 X6 q6 => ?_) (fun _ _ q => q.1)
    obtain ⟨z6, rfl, B6⟩ := q6
    replace B6 : NH K.Z K.n0 h6 o an ak ap [m0, m0, m2] [k0, k0, k2] (ps.set v0 (1 : Int32)) sz := B6
    obtain ⟨E_o, F_nodes, F_keys, F_positionOf, F_size, A_an, A_ak, A_ap, ne_o_an, ne_o_ak, ne_o_ap, ne_an_ak, ne_an_ap, ne_ak_ap, g_o, g_an, g_ak, g_ap⟩ := B6
    refine r_iload X6 cx P61m6_52 rfl ?_
    refine r_istore (fun zz => #[.val (.ref o), .val (.int nd), .val (.long ke), .second, .val (.int (1 : Int32)), .val (.int zz), .val (.int (0 : Int32))]) X6 cx P61m6_54 (fun _ => rfl) (fun i7 e_i7 => ?_)
    subst e_i7
    refine r_goto X6 cx P61m6_56 ?_
    refine r_iload X6 cx P61m6_4 rfl ?_
    refine r_ifle X6 cx P61m6_6 (fun _ => ?_) (fun c => absurd c (by decide))
    refine r_aloadN X6 cx P61m6_59 rfl ?_
    refine r_iloadN X6 cx P61m6_60 rfl ?_
    refine r_lloadN X6 cx P61m6_61 rfl ?_
    refine r_iload X6 cx P61m6_62 rfl ?_
    refine r_private [(.int nd), (.long ke), (.int (0 : Int32))] [] X6 cx P61m6_64 E_o (hw.get 38 rfl) (hw.get 25 rfl) (hw.get 39 rfl) (hw.get 40 rfl) (hw.get 3 rfl) (hw.get 41 rfl) rfl (by decide) (con_P61m8 K.l K.Z a0 hw o nd ke (0 : Int32) h6 K.n0 X6.ge an ak ap [m0, m0, m2] [k0, k0, k2] (ps.set v0 (1 : Int32)) sz ⟨E_o, F_nodes, F_keys, F_positionOf, F_size, A_an, A_ak, A_ap, ne_o_an, ne_o_ak, ne_o_ap, ne_an_ak, ne_an_ap, ne_ak_ap, g_o, g_an, g_ak, g_ap⟩ vn 0 ev rfl (ltb rfl) (ltb rfl) (by first | omega | (simp only [List.length_set]; omega))) (lenOf pd_1 rfl) rfl rfl (by decide) (leb rfl) (by decide) (by decide) (fun T8 h8 v8 X8 q8 => ?_) (fun _ _ q => q.1)
    obtain ⟨z8, rfl, B8⟩ := q8
    replace B8 : NH K.Z K.n0 h8 o an ak ap [nd, m0, m2] [ke, k0, k2] ((ps.set v0 (1 : Int32)).set vn (0 : Int32)) sz := B8
    obtain ⟨E_o, F_nodes, F_keys, F_positionOf, F_size, A_an, A_ak, A_ap, ne_o_an, ne_o_ak, ne_o_ap, ne_an_ak, ne_an_ap, ne_ak_ap, g_o, g_an, g_ak, g_ap⟩ := B8
    refine r_return X8 cx P61m6_67 (by decide) (by decide) ?_
    exact ⟨(Nat.le_trans z6 z8), rfl, Or.inl ⟨c26, ⟨E_o, F_nodes, F_keys, F_positionOf, F_size, A_an, A_ak, A_ap, ne_o_an, ne_o_ak, ne_o_ap, ne_an_ak, ne_an_ap, ne_ak_ap, g_o, g_an, g_ak, g_ap⟩⟩⟩
  · refine r_goto X3 cx P61m6_29 ?_
    refine r_aloadN X3 cx P61m6_59 rfl ?_
    refine r_iloadN X3 cx P61m6_60 rfl ?_
    refine r_lloadN X3 cx P61m6_61 rfl ?_
    refine r_iload X3 cx P61m6_62 rfl ?_
    refine r_private [(.int nd), (.long ke), (.int (1 : Int32))] [] X3 cx P61m6_64 E_o (hw.get 38 rfl) (hw.get 25 rfl) (hw.get 39 rfl) (hw.get 40 rfl) (hw.get 3 rfl) (hw.get 41 rfl) rfl (by decide) (con_P61m8 K.l K.Z a0 hw o nd ke (1 : Int32) h0 K.n0 X3.ge an ak ap [m0, m1, m2] [k0, k1, k2] ps sz ⟨E_o, F_nodes, F_keys, F_positionOf, F_size, A_an, A_ak, A_ap, ne_o_an, ne_o_ak, ne_o_ap, ne_an_ak, ne_an_ap, ne_ak_ap, g_o, g_an, g_ak, g_ap⟩ vn 1 ev rfl (ltb rfl) (ltb rfl) (by first | omega | (simp only [List.length_set]; omega))) (lenOf pd_1 rfl) rfl rfl (by decide) (leb rfl) (by decide) (by decide) (fun T4 h4 v4 X4 q4 => ?_) (fun _ _ q => q.1)
    obtain ⟨z4, rfl, B4⟩ := q4
    replace B4 : NH K.Z K.n0 h4 o an ak ap [m0, nd, m2] [k0, ke, k2] (ps.set vn (1 : Int32)) sz := B4
    obtain ⟨E_o, F_nodes, F_keys, F_positionOf, F_size, A_an, A_ak, A_ap, ne_o_an, ne_o_ak, ne_o_ap, ne_an_ak, ne_an_ap, ne_ak_ap, g_o, g_an, g_ak, g_ap⟩ := B4
    refine r_return X4 cx P61m6_67 (by decide) (by decide) ?_
    exact ⟨z4, rfl, Or.inr ⟨c26, ⟨E_o, F_nodes, F_keys, F_positionOf, F_size, A_an, A_ak, A_ap, ne_o_an, ne_o_ak, ne_o_ap, ne_an_ak, ne_an_ap, ne_ak_ap, g_o, g_an, g_ak, g_ap⟩⟩⟩
theorem ef_P61m6_2 (m : MethodId) (o : Addr) (nd : Int32) (ke : Int64) : entryFrame m #[(.ref o), (.int nd), (.long ke), (.int (2 : Int32))] 7 = mkF m 0 #[.val (.ref o), .val (.int nd), .val (.long ke), .second, .val (.int (2 : Int32)), .unset, .unset] [] := by first | (simp [entryFrame, mkF, argsToLocals, Value.category]; done) | rfl
set_option maxRecDepth 65536 in
set_option maxHeartbeats 40000000 in
theorem con_P61m6_2 (l : Launch) (Z : State) (a0 : Array Value) (hw : Tb tables_1 a0 Z) (o : Addr) (nd : Int32) (ke : Int64) (h0 : Heap) (n0 : Nat) (Z0 : n0 ≤ h0.size) (an ak ap : Addr) (m0 m1 m2 : Int32) (k0 k1 k2 : Int64) (ps : List Int32) (hpl : ps.length = 4) (sz : Int32) (B : NH Z n0 h0 o an ak ap [m0, m1, m2] [k0, k1, k2] ps sz) (vn v0 : Nat) (ev : nd = Int32.ofNat vn) (e0 : m0 = Int32.ofNat v0) (hvn : vn < 4) (hv0 : v0 < 4) :
    Con l Z (⟨"com/example/lacewood/lacewood/paths/NodeHeap", "siftUp", "(IJI)V"⟩ : MethodName) prog_61_method_6_code 7 (none) ({ frames := 1, cells := 0, slots := 0, locals := 16 } : Room) #[(.ref o), (.int nd), (.long ke), (.int (2 : Int32))] h0 n0 (fun u h => h0.size ≤ h.size ∧ u = none ∧ ((ke < k0 ∧ NH Z n0 h o an ak ap [nd, m1, m0] [ke, k1, k0] ((ps.set v0 2).set vn 0) sz) ∨ (¬ ke < k0 ∧ NH Z n0 h o an ak ap [m0, m1, nd] [k0, k1, ke] (ps.set vn 2) sz))) := by
  refine Con.of (plainFor_of_name (by decide +kernel)) Z0 ?_
  intro K hl hZ hn cx T0 X0
  subst hl hZ hn
  refine Run.cast (ef_P61m6_2 K.m o nd ke) ?_
  obtain ⟨E_o, F_nodes, F_keys, F_positionOf, F_size, A_an, A_ak, A_ap, ne_o_an, ne_o_ak, ne_o_ap, ne_an_ak, ne_an_ap, ne_ak_ap, g_o, g_an, g_ak, g_ap⟩ := B
  refine r_iload X0 cx P61m6_0 rfl ?_
  refine r_istore (fun zz => #[.val (.ref o), .val (.int nd), .val (.long ke), .second, .val (.int (2 : Int32)), .val (.int zz), .unset]) X0 cx P61m6_2 (fun _ => rfl) (fun i1 e_i1 => ?_)
  subst e_i1
  refine r_iload X0 cx P61m6_4 rfl ?_
  refine r_ifle X0 cx P61m6_6 (fun c => absurd c (by decide)) (fun _ => ?_)
  refine r_iload X0 cx P61m6_9 rfl ?_
  refine r_iconst (1) X0 cx P61m6_11 rfl ?_
  refine r_isub X0 cx P61m6_12 ?_
  refine r_top (v' := 1) (by decide) ?_
  refine r_iconst (1) X0 cx P61m6_13 rfl ?_
  refine r_iushr X0 cx P61m6_14 ?_
  refine r_top (v' := 0) (by decide) ?_
  refine r_istore (fun zz => #[.val (.ref o), .val (.int nd), .val (.long ke), .second, .val (.int (2 : Int32)), .val (.int (2 : Int32)), .val (.int zz)]) X0 cx P61m6_15 (fun _ => rfl) (fun i2 e_i2 => ?_)
  subst e_i2
  refine r_aloadN X0 cx P61m6_17 rfl ?_
  refine r_getfield X0 cx P61m6_18 (hw.get 14 rfl) F_keys (fun T3 X3 => ?_)
  refine r_iload X3 cx P61m6_21 rfl ?_
  refine r_laload X3 cx P61m6_23 A_ak (0) rfl (v := k0) rfl ?_
  refine r_lloadN X3 cx P61m6_24 rfl ?_
  refine r_lcmp X3 cx P61m6_25 ?_
  refine r_lcmpgt X3 cx P61m6_26 (fun c26 => ?_) (fun c26 => ?_)
  · refine r_aloadN X3 cx P61m6_32 rfl ?_
    refine r_aloadN X3 cx P61m6_33 rfl ?_
    refine r_getfield X3 cx P61m6_34 (hw.get 11 rfl) F_nodes (fun T4 X4 => ?_)
    refine r_iload X4 cx P61m6_37 rfl ?_
    refine r_iaload X4 cx P61m6_39 A_an (0) rfl (v := m0) rfl ?_
    refine r_aloadN X4 cx P61m6_40 rfl ?_
    refine r_getfield X4 cx P61m6_41 (hw.get 14 rfl) F_keys (fun T5 X5 => ?_)
    refine r_iload X5 cx P61m6_44 rfl ?_
    refine r_laload X5 cx P61m6_46 A_ak (0) rfl (v := k0) rfl ?_
    refine r_iload X5 cx P61m6_47 rfl ?_
    refine r_private [(.int m0), (.long k0), (.int (2 : Int32))] [] X5 cx P61m6_49 E_o (hw.get 38 rfl) (hw.get 25 rfl) (hw.get 39 rfl) (hw.get 40 rfl) (hw.get 3 rfl) (hw.get 41 rfl) rfl (by decide) (con_P61m8 K.l K.Z a0 hw o m0 k0 (2 : Int32) h0 K.n0 X5.ge an ak ap [m0, m1, m2] [k0, k1, k2] ps sz ⟨E_o, F_nodes, F_keys, F_positionOf, F_size, A_an, A_ak, A_ap, ne_o_an, ne_o_ak, ne_o_ap, ne_an_ak, ne_an_ap, ne_ak_ap, g_o, g_an, g_ak, g_ap⟩ v0 2 e0 rfl (ltb rfl) (ltb rfl) (by first | omega | (simp only [List.length_set]; omega))) (lenOf pd_1 rfl) rfl rfl (by decide) (leb rfl) (by decide) (by decide) (fun T6 h6 v6 X6 q6 => ?_) (fun _ _ q => q.1)
    obtain ⟨z6, rfl, B6⟩ := q6
    replace B6 : NH K.Z K.n0 h6 o an ak ap [m0, m1, m0] [k0, k1, k0] (ps.set v0 (2 : Int32)) sz := B6
    obtain ⟨E_o, F_nodes, F_keys, F_positionOf, F_size, A_an, A_ak, A_ap, ne_o_an, ne_o_ak, ne_o_ap, ne_an_ak, ne_an_ap, ne_ak_ap, g_o, g_an, g_ak, g_ap⟩ := B6
    refine r_iload X6 cx P61m6_52 rfl ?_
    refine r_istore (fun zz => #[.val (.ref o), .val (.int nd), .val (.long ke), .second, .val (.int (2 : Int32)), .val (.int zz), .val (.int (0 : Int32))]) X6 cx P61m6_54 (fun _ => rfl) (fun i7 e_i7 => ?_)
    subst e_i7
    refine r_goto X6 cx P61m6_56 ?_
    refine r_iload X6 cx P61m6_4 rfl ?_
    refine r_ifle X6 cx P61m6_6 (fun _ => ?_) (fun c => absurd c (by decide))
    refine r_aloadN X6 cx P61m6_59 rfl ?_
    refine r_iloadN X6 cx P61m6_60 rfl ?_
    refine r_lloadN X6 cx P61m6_61 rfl ?_
    refine r_iload X6 cx P61m6_62 rfl ?_
    refine r_private [(.int nd), (.long ke), (.int (0 : Int32))] [] X6 cx P61m6_64 E_o (hw.get 38 rfl) (hw.get 25 rfl) (hw.get 39 rfl) (hw.get 40 rfl) (hw.get 3 rfl) (hw.get 41 rfl) rfl (by decide) (con_P61m8 K.l K.Z a0 hw o nd ke (0 : Int32) h6 K.n0 X6.ge an ak ap [m0, m1, m0] [k0, k1, k0] (ps.set v0 (2 : Int32)) sz ⟨E_o, F_nodes, F_keys, F_positionOf, F_size, A_an, A_ak, A_ap, ne_o_an, ne_o_ak, ne_o_ap, ne_an_ak, ne_an_ap, ne_ak_ap, g_o, g_an, g_ak, g_ap⟩ vn 0 ev rfl (ltb rfl) (ltb rfl) (by first | omega | (simp only [List.length_set]; omega))) (lenOf pd_1 rfl) rfl rfl (by decide) (leb rfl) (by decide) (by decide) (fun T8 h8 v8 X8 q8 => ?_) (fun _ _ q => q.1)
    obtain ⟨z8, rfl, B8⟩ := q8
    replace B8 : NH K.Z K.n0 h8 o an ak ap [nd, m1, m0] [ke, k1, k0] ((ps.set v0 (2 : Int32)).set vn (0 : Int32)) sz := B8
    obtain ⟨E_o, F_nodes, F_keys, F_positionOf, F_size, A_an, A_ak, A_ap, ne_o_an, ne_o_ak, ne_o_ap, ne_an_ak, ne_an_ap, ne_ak_ap, g_o, g_an, g_ak, g_ap⟩ := B8
    refine r_return X8 cx P61m6_67 (by decide) (by decide) ?_
    exact ⟨(Nat.le_trans z6 z8), rfl, Or.inl ⟨c26, ⟨E_o, F_nodes, F_keys, F_positionOf, F_size, A_an, A_ak, A_ap, ne_o_an, ne_o_ak, ne_o_ap, ne_an_ak, ne_an_ap, ne_ak_ap, g_o, g_an, g_ak, g_ap⟩⟩⟩
  · refine r_goto X3 cx P61m6_29 ?_
    refine r_aloadN X3 cx P61m6_59 rfl ?_
    refine r_iloadN X3 cx P61m6_60 rfl ?_
    refine r_lloadN X3 cx P61m6_61 rfl ?_
    refine r_iload X3 cx P61m6_62 rfl ?_
    refine r_private [(.int nd), (.long ke), (.int (2 : Int32))] [] X3 cx P61m6_64 E_o (hw.get 38 rfl) (hw.get 25 rfl) (hw.get 39 rfl) (hw.get 40 rfl) (hw.get 3 rfl) (hw.get 41 rfl) rfl (by decide) (con_P61m8 K.l K.Z a0 hw o nd ke (2 : Int32) h0 K.n0 X3.ge an ak ap [m0, m1, m2] [k0, k1, k2] ps sz ⟨E_o, F_nodes, F_keys, F_positionOf, F_size, A_an, A_ak, A_ap, ne_o_an, ne_o_ak, ne_o_ap, ne_an_ak, ne_an_ap, ne_ak_ap, g_o, g_an, g_ak, g_ap⟩ vn 2 ev rfl (ltb rfl) (ltb rfl) (by first | omega | (simp only [List.length_set]; omega))) (lenOf pd_1 rfl) rfl rfl (by decide) (leb rfl) (by decide) (by decide) (fun T4 h4 v4 X4 q4 => ?_) (fun _ _ q => q.1)
    obtain ⟨z4, rfl, B4⟩ := q4
    replace B4 : NH K.Z K.n0 h4 o an ak ap [m0, m1, nd] [k0, k1, ke] (ps.set vn (2 : Int32)) sz := B4
    obtain ⟨E_o, F_nodes, F_keys, F_positionOf, F_size, A_an, A_ak, A_ap, ne_o_an, ne_o_ak, ne_o_ap, ne_an_ak, ne_an_ap, ne_ak_ap, g_o, g_an, g_ak, g_ap⟩ := B4
    refine r_return X4 cx P61m6_67 (by decide) (by decide) ?_
    exact ⟨z4, rfl, Or.inr ⟨c26, ⟨E_o, F_nodes, F_keys, F_positionOf, F_size, A_an, A_ak, A_ap, ne_o_an, ne_o_ak, ne_o_ap, ne_an_ak, ne_an_ap, ne_ak_ap, g_o, g_an, g_ak, g_ap⟩⟩⟩
theorem P61m3_0 : Dc prog_61_method_3_code 0 (.aload_n 0) 1 1 := ⟨(by decide +kernel), rfl⟩
theorem P61m3_1 : Dc prog_61_method_3_code 1 (.getfield 17) 3 4 := ⟨(by decide +kernel), rfl⟩
theorem P61m3_4 : Dc prog_61_method_3_code 4 (.iload_n 1) 1 5 := ⟨(by decide +kernel), rfl⟩
theorem P61m3_5 : Dc prog_61_method_3_code 5 (.iaload) 1 6 := ⟨(by decide +kernel), rfl⟩
theorem P61m3_6 : Dc prog_61_method_3_code 6 (.istore 4) 2 8 := ⟨(by decide +kernel), rfl⟩
theorem P61m3_8 : Dc prog_61_method_3_code 8 (.iload 4) 2 10 := ⟨(by decide +kernel), rfl⟩
theorem P61m3_10 : Dc prog_61_method_3_code 10 (.iconst (-1)) 1 11 := ⟨(by decide +kernel), rfl⟩
theorem P61m3_11 : Db prog_61_method_3_code 11 (.if_icmp .ne 19) (19) 14 30 := ⟨(by decide +kernel), rfl, by decide, by decide⟩
theorem P61m3_14 : Dc prog_61_method_3_code 14 (.aload_n 0) 1 15 := ⟨(by decide +kernel), rfl⟩
theorem P61m3_15 : Dc prog_61_method_3_code 15 (.dup) 1 16 := ⟨(by decide +kernel), rfl⟩
theorem P61m3_16 : Dc prog_61_method_3_code 16 (.getfield 26) 3 19 := ⟨(by decide +kernel), rfl⟩
theorem P61m3_19 : Dc prog_61_method_3_code 19 (.dup_x1) 1 20 := ⟨(by decide +kernel), rfl⟩
theorem P61m3_20 : Dc prog_61_method_3_code 20 (.iconst 1) 1 21 := ⟨(by decide +kernel), rfl⟩
theorem P61m3_21 : Dc prog_61_method_3_code 21 (.iadd) 1 22 := ⟨(by decide +kernel), rfl⟩
theorem P61m3_22 : Dc prog_61_method_3_code 22 (.putfield 26) 3 25 := ⟨(by decide +kernel), rfl⟩
theorem P61m3_25 : Dc prog_61_method_3_code 25 (.istore 4) 2 27 := ⟨(by decide +kernel), rfl⟩
theorem P61m3_27 : Db prog_61_method_3_code 27 (.goto 16) (16) 30 43 := ⟨(by decide +kernel), rfl, by decide, by decide⟩
theorem P61m3_30 : Dc prog_61_method_3_code 30 (.aload_n 0) 1 31 := ⟨(by decide +kernel), rfl⟩
theorem P61m3_31 : Dc prog_61_method_3_code 31 (.getfield 13) 3 34 := ⟨(by decide +kernel), rfl⟩
theorem P61m3_34 : Dc prog_61_method_3_code 34 (.iload 4) 2 36 := ⟨(by decide +kernel), rfl⟩
theorem P61m3_36 : Dc prog_61_method_3_code 36 (.laload) 1 37 := ⟨(by decide +kernel), rfl⟩
theorem P61m3_37 : Dc prog_61_method_3_code 37 (.lload_n 2) 1 38 := ⟨(by decide +kernel), rfl⟩
theorem P61m3_38 : Dc prog_61_method_3_code 38 (.lcmp) 1 39 := ⟨(by decide +kernel), rfl⟩
theorem P61m3_39 : Db prog_61_method_3_code 39 (.ifCond .gt 4) (4) 42 43 := ⟨(by decide +kernel), rfl, by decide, by decide⟩
theorem P61m3_42 : Dc prog_61_method_3_code 42 (.return_) 1 43 := ⟨(by decide +kernel), rfl⟩
theorem P61m3_43 : Dc prog_61_method_3_code 43 (.aload_n 0) 1 44 := ⟨(by decide +kernel), rfl⟩
theorem P61m3_44 : Dc prog_61_method_3_code 44 (.iload_n 1) 1 45 := ⟨(by decide +kernel), rfl⟩
theorem P61m3_45 : Dc prog_61_method_3_code 45 (.lload_n 2) 1 46 := ⟨(by decide +kernel), rfl⟩
theorem P61m3_46 : Dc prog_61_method_3_code 46 (.iload 4) 2 48 := ⟨(by decide +kernel), rfl⟩
theorem P61m3_48 : Dc prog_61_method_3_code 48 (.invokevirtual 30) 3 51 := ⟨(by decide +kernel), rfl⟩
theorem P61m3_51 : Dc prog_61_method_3_code 51 (.return_) 1 52 := ⟨(by decide +kernel), rfl⟩
theorem ef_P61m3_0 (m : MethodId) (o : Addr) (nd : Int32) (ke : Int64) : entryFrame m #[(.ref o), (.int nd), (.long ke)] 5 = mkF m 0 #[.val (.ref o), .val (.int nd), .val (.long ke), .second, .unset] [] := by first | (simp [entryFrame, mkF, argsToLocals, Value.category]; done) | rfl
set_option maxRecDepth 65536 in
set_option maxHeartbeats 40000000 in
theorem con_P61m3_0 (l : Launch) (Z : State) (a0 : Array Value) (hw : Tb tables_1 a0 Z) (o : Addr) (nd : Int32) (ke : Int64) (h0 : Heap) (n0 : Nat) (Z0 : n0 ≤ h0.size) (an ak ap : Addr) (m0 m1 m2 : Int32) (k0 k1 k2 : Int64) (ps : List Int32) (hpl : ps.length = 4) (B : NH Z n0 h0 o an ak ap [m0, m1, m2] [k0, k1, k2] ps 0) (vn v0 : Nat) (ev : nd = Int32.ofNat vn) (e0 : m0 = Int32.ofNat v0) (hvn : vn < 4) (hv0 : v0 < 4) (hno : ps[vn]? = some (-1)) :
    Con l Z (⟨"com/example/lacewood/lacewood/paths/NodeHeap", "offer", "(IJ)V"⟩ : MethodName) prog_61_method_3_code 5 (none) ({ frames := 2, cells := 0, slots := 0, locals := 34 } : Room) #[(.ref o), (.int nd), (.long ke)] h0 n0 (fun u h => h0.size ≤ h.size ∧ u = none ∧ (NH Z n0 h o an ak ap [nd, m1, m2] [ke, k1, k2] (ps.set vn 0) 1)) := by
  refine Con.of (plainFor_of_name (by decide +kernel)) Z0 ?_
  intro K hl hZ hn cx T0 X0
  subst hl hZ hn
  refine Run.cast (ef_P61m3_0 K.m o nd ke) ?_
  obtain ⟨E_o, F_nodes, F_keys, F_positionOf, F_size, A_an, A_ak, A_ap, ne_o_an, ne_o_ak, ne_o_ap, ne_an_ak, ne_an_ap, ne_ak_ap, g_o, g_an, g_ak, g_ap⟩ := B
  have Kp : Keep h0 h0 [o] := Keep.refl _ _
  refine r_aloadN X0 cx P61m3_0 rfl ?_
  refine r_getfield X0 cx P61m3_1 (hw.get 16 rfl) F_positionOf (fun T1 X1 => ?_)
  refine r_iloadN X1 cx P61m3_4 rfl ?_
  refine r_iaload X1 cx P61m3_5 A_ap (vn) ev (v := (-1 : Int32)) hno ?_
  refine r_istore (fun zz => #[.val (.ref o), .val (.int nd), .val (.long ke), .second, .val (.int zz)]) X1 cx P61m3_6 (fun _ => rfl) (fun i2 e_i2 => ?_)
  subst e_i2
  refine r_iload X1 cx P61m3_8 rfl ?_
  refine r_iconst (-1) X1 cx P61m3_10 rfl ?_
  refine r_icmpne X1 cx P61m3_11 (fun c => absurd c (by decide)) (fun _ => ?_)
  refine r_aloadN X1 cx P61m3_14 rfl ?_
  refine r_dup X1 cx P61m3_15 rfl ?_
  refine r_getfield X1 cx P61m3_16 (hw.get 27 rfl) F_size (fun T3 X3 => ?_)
  refine r_dup_x1 X3 cx P61m3_19 rfl rfl ?_
  refine r_iconst (1) X3 cx P61m3_20 rfl ?_
  refine r_iadd X3 cx P61m3_21 ?_
  refine r_top (v' := 1) (by decide) ?_
  refine r_putfield X3 cx P61m3_22 (hw.get 27 rfl) F_size E_o (Or.inl (hw.get 28 rfl)) (hw.get 2 rfl) (ty := .int) (by decide) rfl rfl g_o (fun T4 h4 X4 W4 N4 => ?_)
  replace Kp := Kp.wr W4 (Or.inl (by simp))
  replace F_nodes := F_nodes.other W4 (Or.inr (slot_ne (Or.inr (hw.get 12 rfl)) (Or.inl (hw.get 28 rfl)) (by decide) (t := .array .int) (t' := .int) (by decide) (by decide)))
  replace F_keys := F_keys.other W4 (Or.inr (slot_ne (Or.inr (hw.get 15 rfl)) (Or.inl (hw.get 28 rfl)) (by decide) (t := .array .long) (t' := .int) (by decide) (by decide)))
  replace F_positionOf := F_positionOf.other W4 (Or.inr (slot_ne (Or.inr (hw.get 17 rfl)) (Or.inl (hw.get 28 rfl)) (by decide) (t := .array .int) (t' := .int) (by decide) (by decide)))
  replace E_o := E_o.wr W4
  replace A_an := A_an.other W4 ne_o_an.symm
  replace A_ak := A_ak.other W4 ne_o_ak.symm
  replace A_ap := A_ap.other W4 ne_o_ap.symm
  have F_size := N4
  refine r_istore (fun zz => #[.val (.ref o), .val (.int nd), .val (.long ke), .second, .val (.int zz)]) X4 cx P61m3_25 (fun _ => rfl) (fun i5 e_i5 => ?_)
  subst e_i5
  refine r_goto X4 cx P61m3_27 ?_
  refine r_aloadN X4 cx P61m3_43 rfl ?_
  refine r_iloadN X4 cx P61m3_44 rfl ?_
  refine r_lloadN X4 cx P61m3_45 rfl ?_
  refine r_iload X4 cx P61m3_46 rfl ?_
  refine r_private [(.int nd), (.long ke), (.int (0 : Int32))] [] X4 cx P61m3_48 E_o (hw.get 34 rfl) (hw.get 25 rfl) (hw.get 35 rfl) (hw.get 36 rfl) (hw.get 3 rfl) (hw.get 37 rfl) rfl (by decide) (con_P61m6_0 K.l K.Z a0 hw o nd ke h4 K.n0 X4.ge an ak ap m0 m1 m2 k0 k1 k2 ps hpl 1 ⟨E_o, F_nodes, F_keys, F_positionOf, F_size, A_an, A_ak, A_ap, ne_o_an, ne_o_ak, ne_o_ap, ne_an_ak, ne_an_ap, ne_ak_ap, g_o, g_an, g_ak, g_ap⟩ vn v0 ev e0 hvn hv0) (lenOf pd_1 rfl) rfl rfl (by decide) (leb rfl) (by decide) (by decide) (fun T6 h6 v6 X6 q6 => ?_) (fun _ _ q => q.1)
  obtain ⟨z6, rfl, B6⟩ := q6
  refine r_return X6 cx P61m3_51 (by decide) (by decide) ?_
  exact ⟨Nat.le_trans Kp.1 z6, rfl, B6⟩
theorem ef_P61m3_1 (m : MethodId) (o : Addr) (nd : Int32) (ke : Int64) : entryFrame m #[(.ref o), (.int nd), (.long ke)] 5 = mkF m 0 #[.val (.ref o), .val (.int nd), .val (.long ke), .second, .unset] [] := by first | (simp [entryFrame, mkF, argsToLocals, Value.category]; done) | rfl
set_option maxRecDepth 65536 in
set_option maxHeartbeats 40000000 in
theorem con_P61m3_1 (l : Launch) (Z : State) (a0 : Array Value) (hw : Tb tables_1 a0 Z) (o : Addr) (nd : Int32) (ke : Int64) (h0 : Heap) (n0 : Nat) (Z0 : n0 ≤ h0.size) (an ak ap : Addr) (m0 m1 m2 : Int32) (k0 k1 k2 : Int64) (ps : List Int32) (hpl : ps.length = 4) (B : NH Z n0 h0 o an ak ap [m0, m1, m2] [k0, k1, k2] ps 1) (vn v0 : Nat) (ev : nd = Int32.ofNat vn) (e0 : m0 = Int32.ofNat v0) (hvn : vn < 4) (hv0 : v0 < 4) (hno : ps[vn]? = some (-1)) :
    Con l Z (⟨"com/example/lacewood/lacewood/paths/NodeHeap", "offer", "(IJ)V"⟩ : MethodName) prog_61_method_3_code 5 (none) ({ frames := 2, cells := 0, slots := 0, locals := 34 } : Room) #[(.ref o), (.int nd), (.long ke)] h0 n0 (fun u h => h0.size ≤ h.size ∧ u = none ∧ ((ke < k0 ∧ NH Z n0 h o an ak ap [nd, m0, m2] [ke, k0, k2] ((ps.set v0 1).set vn 0) 2) ∨ (¬ ke < k0 ∧ NH Z n0 h o an ak ap [m0, nd, m2] [k0, ke, k2] (ps.set vn 1) 2))) := by
  refine Con.of (plainFor_of_name (by decide +kernel)) Z0 ?_
  intro K hl hZ hn cx T0 X0
  subst hl hZ hn
  refine Run.cast (ef_P61m3_1 K.m o nd ke) ?_
  obtain ⟨E_o, F_nodes, F_keys, F_positionOf, F_size, A_an, A_ak, A_ap, ne_o_an, ne_o_ak, ne_o_ap, ne_an_ak, ne_an_ap, ne_ak_ap, g_o, g_an, g_ak, g_ap⟩ := B
  have Kp : Keep h0 h0 [o] := Keep.refl _ _
  refine r_aloadN X0 cx P61m3_0 rfl ?_
  refine r_getfield X0 cx P61m3_1 (hw.get 16 rfl) F_positionOf (fun T1 X1 => ?_)
  refine r_iloadN X1 cx P61m3_4 rfl ?_
  refine r_iaload X1 cx P61m3_5 A_ap (vn) ev (v := (-1 : Int32)) hno ?_
  refine r_istore (fun zz => #[.val (.ref o), .val (.int nd), .val (.long ke), .second, .val (.int zz)]) X1 cx P61m3_6 (fun _ => rfl) (fun i2 e_i2 => ?_)
  subst e_i2
  refine r_iload X1 cx P61m3_8 rfl ?_
  refine r_iconst (-1) X1 cx P61m3_10 rfl ?_
  refine r_icmpne X1 cx P61m3_11 (fun c => absurd c (by decide)) (fun _ => ?_)
  refine r_aloadN X1 cx P61m3_14 rfl ?_
  refine r_dup X1 cx P61m3_15 rfl ?_
  refine r_getfield X1 cx P61m3_16 (hw.get 27 rfl) F_size (fun T3 X3 => ?_)
  refine r_dup_x1 X3 cx P61m3_19 rfl rfl ?_
  refine r_iconst (1) X3 cx P61m3_20 rfl ?_
  refine r_iadd X3 cx P61m3_21 ?_
  refine r_top (v' := 2) (by decide) ?_
  refine r_putfield X3 cx P61m3_22 (hw.get 27 rfl) F_size E_o (Or.inl (hw.get 28 rfl)) (hw.get 2 rfl) (ty := .int) (by decide) rfl rfl g_o (fun T4 h4 X4 W4 N4 => ?_)
  replace Kp := Kp.wr W4 (Or.inl (by simp))
  replace F_nodes := F_nodes.other W4 (Or.inr (slot_ne (Or.inr (hw.get 12 rfl)) (Or.inl (hw.get 28 rfl)) (by decide) (t := .array .int) (t' := .int) (by decide) (by decide)))
  replace F_keys := F_keys.other W4 (Or.inr (slot_ne (Or.inr (hw.get 15 rfl)) (Or.inl (hw.get 28 rfl)) (by decide) (t := .array .long) (t' := .int) (by decide) (by decide)))
  replace F_positionOf := F_positionOf.other W4 (Or.inr (slot_ne (Or.inr (hw.get 17 rfl)) (Or.inl (hw.get 28 rfl)) (by decide) (t := .array .int) (t' := .int) (by decide) (by decide)))
  replace E_o := E_o.wr W4
  replace A_an := A_an.other W4 ne_o_an.symm
  replace A_ak := A_ak.other W4 ne_o_ak.symm
  replace A_ap := A_ap.other W4 ne_o_ap.symm
  have F_size := N4
  refine r_istore (fun zz => #[.val (.ref o), .val (.int nd), .val (.long ke), .second, .val (.int zz)]) X4 cx P61m3_25 (fun _ => rfl) (fun i5 e_i5 => ?_)
  subst e_i5
  refine r_goto X4 cx P61m3_27 ?_
  refine r_aloadN X4 cx P61m3_43 rfl ?_
  refine r_iloadN X4 cx P61m3_44 rfl ?_
  refine r_lloadN X4 cx P61m3_45 rfl ?_
  refine r_iload X4 cx P61m3_46 rfl ?_
  refine r_private [(.int nd), (.long ke), (.int (1 : Int32))] [] X4 cx P61m3_48 E_o (hw.get 34 rfl) (hw.get 25 rfl) (hw.get 35 rfl) (hw.get 36 rfl) (hw.get 3 rfl) (hw.get 37 rfl) rfl (by decide) (con_P61m6_1 K.l K.Z a0 hw o nd ke h4 K.n0 X4.ge an ak ap m0 m1 m2 k0 k1 k2 ps hpl 2 ⟨E_o, F_nodes, F_keys, F_positionOf, F_size, A_an, A_ak, A_ap, ne_o_an, ne_o_ak, ne_o_ap, ne_an_ak, ne_an_ap, ne_ak_ap, g_o, g_an, g_ak, g_ap⟩ vn v0 ev e0 hvn hv0) (lenOf pd_1 rfl) rfl rfl (by decide) (leb rfl) (by decide) (by decide) (fun T6 h6 v6 X6 q6 => ?_) (fun _ _ q => q.1)
  obtain ⟨z6, rfl, B6⟩ := q6
  refine r_return X6 cx P61m3_51 (by decide) (by decide) ?_
  exact ⟨Nat.le_trans Kp.1 z6, rfl, B6⟩
theorem ef_P61m3_2 (m : MethodId) (o : Addr) (nd : Int32) (ke : Int64) : entryFrame m #[(.ref o), (.int nd), (.long ke)] 5 = mkF m 0 #[.val (.ref o), .val (.int nd), .val (.long ke), .second, .unset] [] := by first | (simp [entryFrame, mkF, argsToLocals, Value.category]; done) | rfl
set_option maxRecDepth 65536 in
set_option maxHeartbeats 40000000 in
theorem con_P61m3_2 (l : Launch) (Z : State) (a0 : Array Value) (hw : Tb tables_1 a0 Z) (o : Addr) (nd : Int32) (ke : Int64) (h0 : Heap) (n0 : Nat) (Z0 : n0 ≤ h0.size) (an ak ap : Addr) (m0 m1 m2 : Int32) (k0 k1 k2 : Int64) (ps : List Int32) (hpl : ps.length = 4) (B : NH Z n0 h0 o an ak ap [m0, m1, m2] [k0, k1, k2] ps 2) (vn v0 : Nat) (ev : nd = Int32.ofNat vn) (e0 : m0 = Int32.ofNat v0) (hvn : vn < 4) (hv0 : v0 < 4) (hno : ps[vn]? = some (-1)) :
    Con l Z (⟨"com/example/lacewood/lacewood/paths/NodeHeap", "offer", "(IJ)V"⟩ : MethodName) prog_61_method_3_code 5 (none) ({ frames := 2, cells := 0, slots := 0, locals := 34 } : Room) #[(.ref o), (.int nd), (.long ke)] h0 n0 (fun u h => h0.size ≤ h.size ∧ u = none ∧ ((ke < k0 ∧ NH Z n0 h o an ak ap [nd, m1, m0] [ke, k1, k0] ((ps.set v0 2).set vn 0) 3) ∨ (¬ ke < k0 ∧ NH Z n0 h o an ak ap [m0, m1, nd] [k0, k1, ke] (ps.set vn 2) 3))) := by
  refine Con.of (plainFor_of_name (by decide +kernel)) Z0 ?_
  intro K hl hZ hn cx T0 X0
  subst hl hZ hn
  refine Run.cast (ef_P61m3_2 K.m o nd ke) ?_
  obtain ⟨E_o, F_nodes, F_keys, F_positionOf, F_size, A_an, A_ak, A_ap, ne_o_an, ne_o_ak, ne_o_ap, ne_an_ak, ne_an_ap, ne_ak_ap, g_o, g_an, g_ak, g_ap⟩ := B
  have Kp : Keep h0 h0 [o] := Keep.refl _ _
  refine r_aloadN X0 cx P61m3_0 rfl ?_
  refine r_getfield X0 cx P61m3_1 (hw.get 16 rfl) F_positionOf (fun T1 X1 => ?_)
  refine r_iloadN X1 cx P61m3_4 rfl ?_
  refine r_iaload X1 cx P61m3_5 A_ap (vn) ev (v := (-1 : Int32)) hno ?_
  refine r_istore (fun zz => #[.val (.ref o), .val (.int nd), .val (.long ke), .second, .val (.int zz)]) X1 cx P61m3_6 (fun _ => rfl) (fun i2 e_i2 => ?_)
  subst e_i2
  refine r_iload X1 cx P61m3_8 rfl ?_
  refine r_iconst (-1) X1 cx P61m3_10 rfl ?_
  refine r_icmpne X1 cx P61m3_11 (fun c => absurd c (by decide)) (fun _ => ?_)
  refine r_aloadN X1 cx P61m3_14 rfl ?_
  refine r_dup X1 cx P61m3_15 rfl ?_
  refine r_getfield X1 cx P61m3_16 (hw.get 27 rfl) F_size (fun T3 X3 => ?_)
  refine r_dup_x1 X3 cx P61m3_19 rfl rfl ?_
  refine r_iconst (1) X3 cx P61m3_20 rfl ?_
  refine r_iadd X3 cx P61m3_21 ?_
  refine r_top (v' := 3) (by decide) ?_
  refine r_putfield X3 cx P61m3_22 (hw.get 27 rfl) F_size E_o (Or.inl (hw.get 28 rfl)) (hw.get 2 rfl) (ty := .int) (by decide) rfl rfl g_o (fun T4 h4 X4 W4 N4 => ?_)
  replace Kp := Kp.wr W4 (Or.inl (by simp))
  replace F_nodes := F_nodes.other W4 (Or.inr (slot_ne (Or.inr (hw.get 12 rfl)) (Or.inl (hw.get 28 rfl)) (by decide) (t := .array .int) (t' := .int) (by decide) (by decide)))
  replace F_keys := F_keys.other W4 (Or.inr (slot_ne (Or.inr (hw.get 15 rfl)) (Or.inl (hw.get 28 rfl)) (by decide) (t := .array .long) (t' := .int) (by decide) (by decide)))
  replace F_positionOf := F_positionOf.other W4 (Or.inr (slot_ne (Or.inr (hw.get 17 rfl)) (Or.inl (hw.get 28 rfl)) (by decide) (t := .array .int) (t' := .int) (by decide) (by decide)))
  replace E_o := E_o.wr W4
  replace A_an := A_an.other W4 ne_o_an.symm
  replace A_ak := A_ak.other W4 ne_o_ak.symm
  replace A_ap := A_ap.other W4 ne_o_ap.symm
  have F_size := N4
  refine r_istore (fun zz => #[.val (.ref o), .val (.int nd), .val (.long ke), .second, .val (.int zz)]) X4 cx P61m3_25 (fun _ => rfl) (fun i5 e_i5 => ?_)
  subst e_i5
  refine r_goto X4 cx P61m3_27 ?_
  refine r_aloadN X4 cx P61m3_43 rfl ?_
  refine r_iloadN X4 cx P61m3_44 rfl ?_
  refine r_lloadN X4 cx P61m3_45 rfl ?_
  refine r_iload X4 cx P61m3_46 rfl ?_
  refine r_private [(.int nd), (.long ke), (.int (2 : Int32))] [] X4 cx P61m3_48 E_o (hw.get 34 rfl) (hw.get 25 rfl) (hw.get 35 rfl) (hw.get 36 rfl) (hw.get 3 rfl) (hw.get 37 rfl) rfl (by decide) (con_P61m6_2 K.l K.Z a0 hw o nd ke h4 K.n0 X4.ge an ak ap m0 m1 m2 k0 k1 k2 ps hpl 3 ⟨E_o, F_nodes, F_keys, F_positionOf, F_size, A_an, A_ak, A_ap, ne_o_an, ne_o_ak, ne_o_ap, ne_an_ak, ne_an_ap, ne_ak_ap, g_o, g_an, g_ak, g_ap⟩ vn v0 ev e0 hvn hv0) (lenOf pd_1 rfl) rfl rfl (by decide) (leb rfl) (by decide) (by decide) (fun T6 h6 v6 X6 q6 => ?_) (fun _ _ q => q.1)
  obtain ⟨z6, rfl, B6⟩ := q6
  refine r_return X6 cx P61m3_51 (by decide) (by decide) ?_
  exact ⟨Nat.le_trans Kp.1 z6, rfl, B6⟩
theorem ef_P61m3_d (m : MethodId) (o : Addr) (nd : Int32) (ke : Int64) : entryFrame m #[(.ref o), (.int nd), (.long ke)] 5 = mkF m 0 #[.val (.ref o), .val (.int nd), .val (.long ke), .second, .unset] [] := by first | (simp [entryFrame, mkF, argsToLocals, Value.category]; done) | rfl
set_option maxRecDepth 65536 in
set_option maxHeartbeats 40000000 in
theorem con_P61m3_d (l : Launch) (Z : State) (a0 : Array Value) (hw : Tb tables_1 a0 Z) (o : Addr) (nd : Int32) (ke : Int64) (h0 : Heap) (n0 : Nat) (Z0 : n0 ≤ h0.size) (an ak ap : Addr) (m0 m1 m2 : Int32) (k0 k1 k2 : Int64) (ps : List Int32) (hpl : ps.length = 4) (B : NH Z n0 h0 o an ak ap [m0, m1, m2] [k0, k1, k2] ps 1) (vn v0 : Nat) (ev : nd = Int32.ofNat vn) (e0 : m0 = Int32.ofNat v0) (hvn : vn < 4) (hv0 : v0 < 4) (hat : ps[vn]? = some 0) :
    Con l Z (⟨"com/example/lacewood/lacewood/paths/NodeHeap", "offer", "(IJ)V"⟩ : MethodName) prog_61_method_3_code 5 (none) ({ frames := 2, cells := 0, slots := 0, locals := 34 } : Room) #[(.ref o), (.int nd), (.long ke)] h0 n0 (fun u h => h0.size ≤ h.size ∧ u = none ∧ (NH Z n0 h o an ak ap [m0, m1, m2] [k0, k1, k2] ps 1 ∨ NH Z n0 h o an ak ap [nd, m1, m2] [ke, k1, k2] (ps.set vn 0) 1)) := by
  refine Con.of (plainFor_of_name (by decide +kernel)) Z0 ?_
  intro K hl hZ hn cx T0 X0
  subst hl hZ hn
  refine Run.cast (ef_P61m3_d K.m o nd ke) ?_
  obtain ⟨E_o, F_nodes, F_keys, F_positionOf, F_size, A_an, A_ak, A_ap, ne_o_an, ne_o_ak, ne_o_ap, ne_an_ak, ne_an_ap, ne_ak_ap, g_o, g_an, g_ak, g_ap⟩ := B
  refine r_aloadN X0 cx P61m3_0 rfl ?_
  refine r_getfield X0 cx P61m3_1 (hw.get 16 rfl) F_positionOf (fun T1 X1 => ?_)
  refine r_iloadN X1 cx P61m3_4 rfl ?_
  refine r_iaload X1 cx P61m3_5 A_ap (vn) ev (v := (0 : Int32)) hat ?_
  refine r_istore (fun zz => #[.val (.ref o), .val (.int nd), .val (.long ke), .second, .val (.int zz)]) X1 cx P61m3_6 (fun _ => rfl) (fun i2 e_i2 => ?_)
  subst e_i2
  refine r_iload X1 cx P61m3_8 rfl ?_
  refine r_iconst (-1) X1 cx P61m3_10 rfl ?_
  refine r_icmpne X1 cx P61m3_11 (fun _ => ?_) (fun c => absurd c (by decide))
  refine r_aloadN X1 cx P61m3_30 rfl ?_
  refine r_getfield X1 cx P61m3_31 (hw.get 14 rfl) F_keys (fun T3 X3 => ?_)
  refine r_iload X3 cx P61m3_34 rfl ?_
  refine r_laload X3 cx P61m3_36 A_ak (0) rfl (v := k0) rfl ?_
  refine r_lloadN X3 cx P61m3_37 rfl ?_
  refine r_lcmp X3 cx P61m3_38 ?_
  refine r_lcmpgt X3 cx P61m3_39 (fun c39 => ?_) (fun c39 => ?_)
  · refine r_aloadN X3 cx P61m3_43 rfl ?_
    refine r_iloadN X3 cx P61m3_44 rfl ?_
    refine r_lloadN X3 cx P61m3_45 rfl ?_
    refine r_iload X3 cx P61m3_46 rfl ?_
    refine r_private [(.int nd), (.long ke), (.int (0 : Int32))] [] X3 cx P61m3_48 E_o (hw.get 34 rfl) (hw.get 25 rfl) (hw.get 35 rfl) (hw.get 36 rfl) (hw.get 3 rfl) (hw.get 37 rfl) rfl (by decide) (con_P61m6_0 K.l K.Z a0 hw o nd ke h0 K.n0 X3.ge an ak ap m0 m1 m2 k0 k1 k2 ps hpl 1 ⟨E_o, F_nodes, F_keys, F_positionOf, F_size, A_an, A_ak, A_ap, ne_o_an, ne_o_ak, ne_o_ap, ne_an_ak, ne_an_ap, ne_ak_ap, g_o, g_an, g_ak, g_ap⟩ vn v0 ev e0 hvn hv0) (lenOf pd_1 rfl) rfl rfl (by decide) (leb rfl) (by decide) (by decide) (fun T4 h4 v4 X4 q4 => ?_) (fun _ _ q => q.1)
    obtain ⟨z4, rfl, B4⟩ := q4
    refine r_return X4 cx P61m3_51 (by decide) (by decide) ?_
    exact ⟨z4, rfl, Or.inr B4⟩
  · refine r_return X3 cx P61m3_42 (by decide) (by decide) ?_
    exact ⟨Nat.le_refl _, rfl, Or.inl ⟨E_o, F_nodes, F_keys, F_positionOf, F_size, A_an, A_ak, A_ap, ne_o_an, ne_o_ak, ne_o_ap, ne_an_ak, ne_an_ap, ne_ak_ap, g_o, g_an, g_ak, g_ap⟩⟩
theorem P61m5_0 : Dc prog_61_method_5_code 0 (.iconst 0) 1 1 := ⟨(by decide +kernel), rfl⟩
theorem P61m5_1 : Dc prog_61_method_5_code 1 (.istore_n 1) 1 2 := ⟨(by decide +kernel), rfl⟩
theorem P61m5_2 : Dc prog_61_method_5_code 2 (.iload_n 1) 1 3 := ⟨(by decide +kernel), rfl⟩
theorem P61m5_3 : Dc prog_61_method_5_code 3 (.aload_n 0) 1 4 := ⟨(by decide +kernel), rfl⟩
theorem P61m5_4 : Dc prog_61_method_5_code 4 (.getfield 26) 3 7 := ⟨(by decide +kernel), rfl⟩
theorem P61m5_7 : Db prog_61_method_5_code 7 (.if_icmp .ge 21) (21) 10 28 := ⟨(by decide +kernel), rfl, by decide, by decide⟩
theorem P61m5_10 : Dc prog_61_method_5_code 10 (.aload_n 0) 1 11 := ⟨(by decide +kernel), rfl⟩
theorem P61m5_11 : Dc prog_61_method_5_code 11 (.getfield 17) 3 14 := ⟨(by decide +kernel), rfl⟩
theorem P61m5_14 : Dc prog_61_method_5_code 14 (.aload_n 0) 1 15 := ⟨(by decide +kernel), rfl⟩
theorem P61m5_15 : Dc prog_61_method_5_code 15 (.getfield 7) 3 18 := ⟨(by decide +kernel), rfl⟩
theorem P61m5_18 : Dc prog_61_method_5_code 18 (.iload_n 1) 1 19 := ⟨(by decide +kernel), rfl⟩
theorem P61m5_19 : Dc prog_61_method_5_code 19 (.iaload) 1 20 := ⟨(by decide +kernel), rfl⟩
theorem P61m5_20 : Dc prog_61_method_5_code 20 (.iconst (-1)) 1 21 := ⟨(by decide +kernel), rfl⟩
theorem P61m5_21 : Dc prog_61_method_5_code 21 (.iastore) 1 22 := ⟨(by decide +kernel), rfl⟩
theorem P61m5_22 : Dc prog_61_method_5_code 22 (.iinc 1 1) 3 25 := ⟨(by decide +kernel), rfl⟩
theorem P61m5_25 : Db prog_61_method_5_code 25 (.goto (-23)) (-23) 28 2 := ⟨(by decide +kernel), rfl, by decide, by decide⟩
theorem P61m5_28 : Dc prog_61_method_5_code 28 (.aload_n 0) 1 29 := ⟨(by decide +kernel), rfl⟩
theorem P61m5_29 : Dc prog_61_method_5_code 29 (.iconst 0) 1 30 := ⟨(by decide +kernel), rfl⟩
theorem P61m5_30 : Dc prog_61_method_5_code 30 (.putfield 26) 3 33 := ⟨(by decide +kernel), rfl⟩
theorem P61m5_33 : Dc prog_61_method_5_code 33 (.return_) 1 34 := ⟨(by decide +kernel), rfl⟩
theorem ef_P61m5_0 (m : MethodId) (o : Addr) : entryFrame m #[(.ref o)] 2 = mkF m 0 #[.val (.ref o), .unset] [] := by first | (simp [entryFrame, mkF, argsToLocals, Value.category]; done) | rfl
set_option maxRecDepth 65536 in
set_option maxHeartbeats 40000000 in
theorem con_P61m5_0 (l : Launch) (Z : State) (a0 : Array Value) (hw : Tb tables_1 a0 Z) (o : Addr) (h0 : Heap) (n0 : Nat) (Z0 : n0 ≤ h0.size) (an ak ap : Addr) (m0 m1 m2 : Int32) (k0 k1 k2 : Int64) (ps : List Int32) (hpl : ps.length = 4) (B : NH Z n0 h0 o an ak ap [m0, m1, m2] [k0, k1, k2] ps 0) (v0 v1 v2 : Nat) (e0 : m0 = Int32.ofNat v0) (e1 : m1 = Int32.ofNat v1) (e2 : m2 = Int32.ofNat v2) (h0v : v0 < 4) (h1v : v1 < 4) (h2v : v2 < 4) :
    Con l Z (⟨"com/example/lacewood/lacewood/paths/NodeHeap", "clear", "()V"⟩ : MethodName) prog_61_method_5_code 2 (none) ({ frames := 0, cells := 0, slots := 0, locals := 0 } : Room) #[(.ref o)] h0 n0 (fun u h => h0.size ≤ h.size ∧ u = none ∧ NH Z n0 h o an ak ap [m0, m1, m2] [k0, k1, k2] ps 0) := by
  refine Con.of (plainFor_of_name (by decide +kernel)) Z0 ?_
  intro K hl hZ hn cx T0 X0
  subst hl hZ hn
  refine Run.cast (ef_P61m5_0 K.m o) ?_
  obtain ⟨E_o, F_nodes, F_keys, F_positionOf, F_size, A_an, A_ak, A_ap, ne_o_an, ne_o_ak, ne_o_ap, ne_an_ak, ne_an_ap, ne_ak_ap, g_o, g_an, g_ak, g_ap⟩ := B
  have Kp : Keep h0 h0 [o, ap] := Keep.refl _ _
  refine r_iconst (0) X0 cx P61m5_0 rfl ?_
  refine r_istoreN (fun zz => #[.val (.ref o), .val (.int zz)]) X0 cx P61m5_1 (fun _ => rfl) (fun i1 e_i1 => ?_)
  subst e_i1
  refine r_iloadN X0 cx P61m5_2 rfl ?_
  refine r_aloadN X0 cx P61m5_3 rfl ?_
  refine r_getfield X0 cx P61m5_4 (hw.get 27 rfl) F_size (fun T2 X2 => ?_)
  refine r_icmpge X2 cx P61m5_7 (fun _ => ?_) (fun c => absurd c (by decide))
  refine r_aloadN X2 cx P61m5_28 rfl ?_
  refine r_iconst (0) X2 cx P61m5_29 rfl ?_
  refine r_putfield X2 cx P61m5_30 (hw.get 27 rfl) F_size E_o (Or.inl (hw.get 28 rfl)) (hw.get 2 rfl) (ty := .int) (by decide) rfl rfl g_o (fun T3 h3 X3 W3 N3 => ?_)
  replace Kp := Kp.wr W3 (Or.inl (by simp))
  replace F_nodes := F_nodes.other W3 (Or.inr (slot_ne (Or.inr (hw.get 12 rfl)) (Or.inl (hw.get 28 rfl)) (by decide) (t := .array .int) (t' := .int) (by decide) (by decide)))
  replace F_keys := F_keys.other W3 (Or.inr (slot_ne (Or.inr (hw.get 15 rfl)) (Or.inl (hw.get 28 rfl)) (by decide) (t := .array .long) (t' := .int) (by decide) (by decide)))
  replace F_positionOf := F_positionOf.other W3 (Or.inr (slot_ne (Or.inr (hw.get 17 rfl)) (Or.inl (hw.get 28 rfl)) (by decide) (t := .array .int) (t' := .int) (by decide) (by decide)))
  replace E_o := E_o.wr W3
  replace A_an := A_an.other W3 ne_o_an.symm
  replace A_ak := A_ak.other W3 ne_o_ak.symm
  replace A_ap := A_ap.other W3 ne_o_ap.symm
  have F_size := N3
  refine r_return X3 cx P61m5_33 (by decide) (by decide) ?_
  exact ⟨Kp.1, rfl, E_o, F_nodes, F_keys, F_positionOf, F_size, A_an, A_ak, A_ap, ne_o_an, ne_o_ak, ne_o_ap, ne_an_ak, ne_an_ap, ne_ak_ap, g_o, g_an, g_ak, g_ap⟩
theorem ef_P61m5_1 (m : MethodId) (o : Addr) : entryFrame m #[(.ref o)] 2 = mkF m 0 #[.val (.ref o), .unset] [] := by first | (simp [entryFrame, mkF, argsToLocals, Value.category]; done) | rfl
set_option maxRecDepth 65536 in
set_option maxHeartbeats 40000000 in
theorem con_P61m5_1 (l : Launch) (Z : State) (a0 : Array Value) (hw : Tb tables_1 a0 Z) (o : Addr) (h0 : Heap) (n0 : Nat) (Z0 : n0 ≤ h0.size) (an ak ap : Addr) (m0 m1 m2 : Int32) (k0 k1 k2 : Int64) (ps : List Int32) (hpl : ps.length = 4) (B : NH Z n0 h0 o an ak ap [m0, m1, m2] [k0, k1, k2] ps 1) (v0 v1 v2 : Nat) (e0 : m0 = Int32.ofNat v0) (e1 : m1 = Int32.ofNat v1) (e2 : m2 = Int32.ofNat v2) (h0v : v0 < 4) (h1v : v1 < 4) (h2v : v2 < 4) :
    Con l Z (⟨"com/example/lacewood/lacewood/paths/NodeHeap", "clear", "()V"⟩ : MethodName) prog_61_method_5_code 2 (none) ({ frames := 0, cells := 0, slots := 0, locals := 0 } : Room) #[(.ref o)] h0 n0 (fun u h => h0.size ≤ h.size ∧ u = none ∧ NH Z n0 h o an ak ap [m0, m1, m2] [k0, k1, k2] (ps.set v0 (-1)) 0) := by
  refine Con.of (plainFor_of_name (by decide +kernel)) Z0 ?_
  intro K hl hZ hn cx T0 X0
  subst hl hZ hn
  refine Run.cast (ef_P61m5_1 K.m o) ?_
  obtain ⟨E_o, F_nodes, F_keys, F_positionOf, F_size, A_an, A_ak, A_ap, ne_o_an, ne_o_ak, ne_o_ap, ne_an_ak, ne_an_ap, ne_ak_ap, g_o, g_an, g_ak, g_ap⟩ := B
  have Kp : Keep h0 h0 [o, ap] := Keep.refl _ _
  refine r_iconst (0) X0 cx P61m5_0 rfl ?_
  refine r_istoreN (fun zz => #[.val (.ref o), .val (.int zz)]) X0 cx P61m5_1 (fun _ => rfl) (fun i1 e_i1 => ?_)
  subst e_i1
  refine r_iloadN X0 cx P61m5_2 rfl ?_
  refine r_aloadN X0 cx P61m5_3 rfl ?_
  refine r_getfield X0 cx P61m5_4 (hw.get 27 rfl) F_size (fun T2 X2 => ?_)
  refine r_icmpge X2 cx P61m5_7 (fun c => absurd c (by decide)) (fun _ => ?_)
  refine r_aloadN X2 cx P61m5_10 rfl ?_
  refine r_getfield X2 cx P61m5_11 (hw.get 16 rfl) F_positionOf (fun T3 X3 => ?_)
  refine r_aloadN X3 cx P61m5_14 rfl ?_
  refine r_getfield X3 cx P61m5_15 (hw.get 11 rfl) F_nodes (fun T4 X4 => ?_)
  refine r_iloadN X4 cx P61m5_18 rfl ?_
  refine r_iaload X4 cx P61m5_19 A_an (0) rfl (v := m0) rfl ?_
  refine r_iconst (-1) X4 cx P61m5_20 rfl ?_
  refine r_iastore X4 cx P61m5_21 A_ap (v0) e0 (by first | omega | (simp only [List.length_set]; omega)) g_ap (fun T5 h5 X5 W5 N5 => ?_)
  replace Kp := Kp.wr W5 (Or.inl (by simp))
  replace F_nodes := F_nodes.other W5 (Or.inl ne_o_ap)
  replace F_keys := F_keys.other W5 (Or.inl ne_o_ap)
  replace F_positionOf := F_positionOf.other W5 (Or.inl ne_o_ap)
  replace F_size := F_size.other W5 (Or.inl ne_o_ap)
  replace E_o := E_o.wr W5
  replace A_an := A_an.other W5 ne_an_ap
  replace A_ak := A_ak.other W5 ne_ak_ap
  have A_ap : AI .int K.Z h5 ap (ps.set (v0) (-1 : Int32)) := N5
  refine r_iinc (1 : Int32) (fun zz => #[.val (.ref o), .val (.int zz)]) X5 cx P61m5_22 rfl rfl (fun _ => rfl) (fun i6 e_i6 => ?_)
  obtain rfl : i6 = (1 : Int32) := e_i6
  refine r_goto X5 cx P61m5_25 ?_
  refine r_iloadN X5 cx P61m5_2 rfl ?_
  refine r_aloadN X5 cx P61m5_3 rfl ?_
  refine r_getfield X5 cx P61m5_4 (hw.get 27 rfl) F_size (fun T7 X7 => ?_)
  refine r_icmpge X7 cx P61m5_7 (fun _ => ?_) (fun c => absurd c (by decide))
  refine r_aloadN X7 cx P61m5_28 rfl ?_
  refine r_iconst (0) X7 cx P61m5_29 rfl ?_
  refine r_putfield X7 cx P61m5_30 (hw.get 27 rfl) F_size E_o (Or.inl (hw.get 28 rfl)) (hw.get 2 rfl) (ty := .int) (by decide) rfl rfl g_o (fun T8 h8 X8 W8 N8 => ?_)
  replace Kp := Kp.wr W8 (Or.inl (by simp))
  replace F_nodes := F_nodes.other W8 (Or.inr (slot_ne (Or.inr (hw.get 12 rfl)) (Or.inl (hw.get 28 rfl)) (by decide) (t := .array .int) (t' := .int) (by decide) (by decide)))
  replace F_keys := F_keys.other W8 (Or.inr (slot_ne (Or.inr (hw.get 15 rfl)) (Or.inl (hw.get 28 rfl)) (by decide) (t := .array .long) (t' := .int) (by decide) (by decide)))
  replace F_positionOf := F_positionOf.other W8 (Or.inr (slot_ne (Or.inr (hw.get 17 rfl)) (Or.inl (hw.get 28 rfl)) (by decide) (t := .array .int) (t' := .int) (by decide) (by decide)))
  replace E_o := E_o.wr W8
  replace A_an := A_an.other W8 ne_o_an.symm
  replace A_ak := A_ak.other W8 ne_o_ak.symm
  replace A_ap := A_ap.other W8 ne_o_ap.symm
  have F_size := N8
  refine r_return X8 cx P61m5_33 (by decide) (by decide) ?_
  exact ⟨Kp.1, rfl, E_o, F_nodes, F_keys, F_positionOf, F_size, A_an, A_ak, A_ap, ne_o_an, ne_o_ak, ne_o_ap, ne_an_ak, ne_an_ap, ne_ak_ap, g_o, g_an, g_ak, g_ap⟩
theorem ef_P61m5_2 (m : MethodId) (o : Addr) : entryFrame m #[(.ref o)] 2 = mkF m 0 #[.val (.ref o), .unset] [] := by first | (simp [entryFrame, mkF, argsToLocals, Value.category]; done) | rfl
set_option maxRecDepth 65536 in
set_option maxHeartbeats 40000000 in
theorem con_P61m5_2 (l : Launch) (Z : State) (a0 : Array Value) (hw : Tb tables_1 a0 Z) (o : Addr) (h0 : Heap) (n0 : Nat) (Z0 : n0 ≤ h0.size) (an ak ap : Addr) (m0 m1 m2 : Int32) (k0 k1 k2 : Int64) (ps : List Int32) (hpl : ps.length = 4) (B : NH Z n0 h0 o an ak ap [m0, m1, m2] [k0, k1, k2] ps 2) (v0 v1 v2 : Nat) (e0 : m0 = Int32.ofNat v0) (e1 : m1 = Int32.ofNat v1) (e2 : m2 = Int32.ofNat v2) (h0v : v0 < 4) (h1v : v1 < 4) (h2v : v2 < 4) :
    Con l Z (⟨"com/example/lacewood/lacewood/paths/NodeHeap", "clear", "()V"⟩ : MethodName) prog_61_method_5_code 2 (none) ({ frames := 0, cells := 0, slots := 0, locals := 0 } : Room) #[(.ref o)] h0 n0 (fun u h => h0.size ≤ h.size ∧ u = none ∧ NH Z n0 h o an ak ap [m0, m1, m2] [k0, k1, k2] ((ps.set v0 (-1)).set v1 (-1)) 0) := by
  refine Con.of (plainFor_of_name (by decide +kernel)) Z0 ?_
  intro K hl hZ hn cx T0 X0
  subst hl hZ hn
  refine Run.cast (ef_P61m5_2 K.m o) ?_
  obtain ⟨E_o, F_nodes, F_keys, F_positionOf, F_size, A_an, A_ak, A_ap, ne_o_an, ne_o_ak, ne_o_ap, ne_an_ak, ne_an_ap, ne_ak_ap, g_o, g_an, g_ak, g_ap⟩ := B
  have Kp : Keep h0 h0 [o, ap] := Keep.refl _ _
  refine r_iconst (0) X0 cx P61m5_0 rfl ?_
  refine r_istoreN (fun zz => #[.val (.ref o), .val (.int zz)]) X0 cx P61m5_1 (fun _ => rfl) (fun i1 e_i1 => ?_)
  subst e_i1
  refine r_iloadN X0 cx P61m5_2 rfl ?_
  refine r_aloadN X0 cx P61m5_3 rfl ?_
  refine r_getfield X0 cx P61m5_4 (hw.get 27 rfl) F_size (fun T2 X2 => ?_)
  refine r_icmpge X2 cx P61m5_7 (fun c => absurd c (by decide)) (fun _ => ?_)
  refine r_aloadN X2 cx P61m5_10 rfl ?_
  refine r_getfield X2 cx P61m5_11 (hw.get 16 rfl) F_positionOf (fun T3 X3 => ?_)
  refine r_aloadN X3 cx P61m5_14 rfl ?_
  refine r_getfield X3 cx P61m5_15 (hw.get 11 rfl) F_nodes (fun T4 X4 => ?_)
  refine r_iloadN X4 cx P61m5_18 rfl ?_
  refine r_iaload X4 cx P61m5_19 A_an (0) rfl (v := m0) rfl ?_
  refine r_iconst (-1) X4 cx P61m5_20 rfl ?_
  refine r_iastore X4 cx P61m5_21 A_ap (v0) e0 (by first | omega | (simp only [List.length_set]; omega)) g_ap (fun T5 h5 X5 W5 N5 => ?_)
  replace Kp := Kp.wr W5 (Or.inl (by simp))
  replace F_nodes := F_nodes.other W5 (Or.inl ne_o_ap)
  replace F_keys := F_keys.other W5 (Or.inl ne_o_ap)
  replace F_positionOf := F_positionOf.other W5 (Or.inl ne_o_ap)
  replace F_size := F_size.other W5 (Or.inl ne_o_ap)
  replace E_o := E_o.wr W5
  replace A_an := A_an.other W5 ne_an_ap
  replace A_ak := A_ak.other W5 ne_ak_ap
  have A_ap : AI .int K.Z h5 ap (ps.set (v0) (-1 : Int32)) := N5
  refine r_iinc (1 : Int32) (fun zz => #[.val (.ref o), .val (.int zz)]) X5 cx P61m5_22 rfl rfl (fun _ => rfl) (fun i6 e_i6 => ?_)
  obtain rfl : i6 = (1 : Int32) := e_i6
  refine r_goto X5 cx P61m5_25 ?_
  refine r_iloadN X5 cx P61m5_2 rfl ?_
  refine r_aloadN X5 cx P61m5_3 rfl ?_
  refine r_getfield X5 cx P61m5_4 (hw.get 27 rfl) F_size (fun T7 X7 => ?_)
  refine r_icmpge X7 cx P61m5_7 (fun c => absurd c (by decide)) (fun _ => ?_)
  refine r_aloadN X7 cx P61m5_10 rfl ?_
  refine r_getfield X7 cx P61m5_11 (hw.get 16 rfl) F_positionOf (fun T8 X8 => ?_)
  refine r_aloadN X8 cx P61m5_14 rfl ?_
  refine r_getfield X8 cx P61m5_15 (hw.get 11 rfl) F_nodes (fun T9 X9 => ?_)
  refine r_iloadN X9 cx P61m5_18 rfl ?_
  refine r_iaload X9 cx P61m5_19 A_an (1) rfl (v := m1) rfl ?_
  refine r_iconst (-1) X9 cx P61m5_20 rfl ?_
  refine r_iastore X9 cx P61m5_21 A_ap (v1) e1 (by first | omega | (simp only [List.length_set]; omega)) g_ap (fun T10 h10 X10 W10 N10 => ?_)
  replace Kp := Kp.wr W10 (Or.inl (by simp))
  replace F_nodes := F_nodes.other W10 (Or.inl ne_o_ap)
  replace F_keys := F_keys.other W10 (Or.inl ne_o_ap)
  replace F_positionOf := F_positionOf.other W10 (Or.inl ne_o_ap)
  replace F_size := F_size.other W10 (Or.inl ne_o_ap)
  replace E_o := E_o.wr W10
  replace A_an := A_an.other W10 ne_an_ap
  replace A_ak := A_ak.other W10 ne_ak_ap
  have A_ap : AI .int K.Z h10 ap ((ps.set (v0) (-1 : Int32)).set (v1) (-1 : Int32)) := N10
  refine r_iinc (1 : Int32) (fun zz => #[.val (.ref o), .val (.int zz)]) X10 cx P61m5_22 rfl rfl (fun _ => rfl) (fun i11 e_i11 => ?_)
  obtain rfl : i11 = (2 : Int32) := e_i11
  refine r_goto X10 cx P61m5_25 ?_
  refine r_iloadN X10 cx P61m5_2 rfl ?_
  refine r_aloadN X10 cx P61m5_3 rfl ?_
  refine r_getfield X10 cx P61m5_4 (hw.get 27 rfl) F_size (fun T12 X12 => ?_)
  refine r_icmpge X12 cx P61m5_7 (fun _ => ?_) (fun c => absurd c (by decide))
  refine r_aloadN X12 cx P61m5_28 rfl ?_
  refine r_iconst (0) X12 cx P61m5_29 rfl ?_
  refine r_putfield X12 cx P61m5_30 (hw.get 27 rfl) F_size E_o (Or.inl (hw.get 28 rfl)) (hw.get 2 rfl) (ty := .int) (by decide) rfl rfl g_o (fun T13 h13 X13 W13 N13 => ?_)
  replace Kp := Kp.wr W13 (Or.inl (by simp))
  replace F_nodes := F_nodes.other W13 (Or.inr (slot_ne (Or.inr (hw.get 12 rfl)) (Or.inl (hw.get 28 rfl)) (by decide) (t := .array .int) (t' := .int) (by decide) (by decide)))
  replace F_keys := F_keys.other W13 (Or.inr (slot_ne (Or.inr (hw.get 15 rfl)) (Or.inl (hw.get 28 rfl)) (by decide) (t := .array .long) (t' := .int) (by decide) (by decide)))
  replace F_positionOf := F_positionOf.other W13 (Or.inr (slot_ne (Or.inr (hw.get 17 rfl)) (Or.inl (hw.get 28 rfl)) (by decide) (t := .array .int) (t' := .int) (by decide) (by decide)))
  replace E_o := E_o.wr W13
  replace A_an := A_an.other W13 ne_o_an.symm
  replace A_ak := A_ak.other W13 ne_o_ak.symm
  replace A_ap := A_ap.other W13 ne_o_ap.symm
  have F_size := N13
  refine r_return X13 cx P61m5_33 (by decide) (by decide) ?_
  exact ⟨Kp.1, rfl, E_o, F_nodes, F_keys, F_positionOf, F_size, A_an, A_ak, A_ap, ne_o_an, ne_o_ak, ne_o_ap, ne_an_ak, ne_an_ap, ne_ak_ap, g_o, g_an, g_ak, g_ap⟩
theorem ef_P61m5_3 (m : MethodId) (o : Addr) : entryFrame m #[(.ref o)] 2 = mkF m 0 #[.val (.ref o), .unset] [] := by first | (simp [entryFrame, mkF, argsToLocals, Value.category]; done) | rfl
set_option maxRecDepth 65536 in
set_option maxHeartbeats 40000000 in
theorem con_P61m5_3 (l : Launch) (Z : State) (a0 : Array Value) (hw : Tb tables_1 a0 Z) (o : Addr) (h0 : Heap) (n0 : Nat) (Z0 : n0 ≤ h0.size) (an ak ap : Addr) (m0 m1 m2 : Int32) (k0 k1 k2 : Int64) (ps : List Int32) (hpl : ps.length = 4) (B : NH Z n0 h0 o an ak ap [m0, m1, m2] [k0, k1, k2] ps 3) (v0 v1 v2 : Nat) (e0 : m0 = Int32.ofNat v0) (e1 : m1 = Int32.ofNat v1) (e2 : m2 = Int32.ofNat v2) (h0v : v0 < 4) (h1v : v1 < 4) (h2v : v2 < 4) :
    Con l Z (⟨"com/example/lacewood/lacewood/paths/NodeHeap", "clear", "()V"⟩ : MethodName) prog_61_method_5_code 2 (none) ({ frames := 0, cells := 0, slots := 0, locals := 0 } : Room) #[(.ref o)] h0 n0 (fun u h => h0.size ≤ h.size ∧ u = none ∧ NH Z n0 h o an ak ap [m0, m1, m2] [k0, k1, k2] (((ps.set v0 (-1)).set v1 (-1)).set v2 (-1)) 0) := by
  refine Con.of (plainFor_of_name (by decide +kernel)) Z0 ?_
  intro K hl hZ hn cx T0 X0
  subst hl hZ hn
  refine Run.cast (ef_P61m5_3 K.m o) ?_
  obtain ⟨E_o, F_nodes, F_keys, F_positionOf, F_size, A_an, A_ak, A_ap, ne_o_an, ne_o_ak, ne_o_ap, ne_an_ak, ne_an_ap, ne_ak_ap, g_o, g_an, g_ak, g_ap⟩ := B
  have Kp : Keep h0 h0 [o, ap] := Keep.refl _ _
  refine r_iconst (0) X0 cx P61m5_0 rfl ?_
  refine r_istoreN (fun zz => #[.val (.ref o), .val (.int zz)]) X0 cx P61m5_1 (fun _ => rfl) (fun i1 e_i1 => ?_)
  subst e_i1
  refine r_iloadN X0 cx P61m5_2 rfl ?_
  refine r_aloadN X0 cx P61m5_3 rfl ?_
  refine r_getfield X0 cx P61m5_4 (hw.get 27 rfl) F_size (fun T2 X2 => ?_)
  refine r_icmpge X2 cx P61m5_7 (fun c => absurd c (by decide)) (fun _ => ?_)
  refine r_aloadN X2 cx P61m5_10 rfl ?_
  refine r_getfield X2 cx P61m5_11 (hw.get 16 rfl) F_positionOf (fun T3 X3 => ?_)
  refine r_aloadN X3 cx P61m5_14 rfl ?_
  refine r_getfield X3 cx P61m5_15 (hw.get 11 rfl) F_nodes (fun T4 X4 => ?_)
  refine r_iloadN X4 cx P61m5_18 rfl ?_
  refine r_iaload X4 cx P61m5_19 A_an (0) rfl (v := m0) rfl ?_
  refine r_iconst (-1) X4 cx P61m5_20 rfl ?_
  refine r_iastore X4 cx P61m5_21 A_ap (v0) e0 (by first | omega | (simp only [List.length_set]; omega)) g_ap (fun T5 h5 X5 W5 N5 => ?_)
  replace Kp := Kp.wr W5 (Or.inl (by simp))
  replace F_nodes := F_nodes.other W5 (Or.inl ne_o_ap)
  replace F_keys := F_keys.other W5 (Or.inl ne_o_ap)
  replace F_positionOf := F_positionOf.other W5 (Or.inl ne_o_ap)
  replace F_size := F_size.other W5 (Or.inl ne_o_ap)
  replace E_o := E_o.wr W5
  replace A_an := A_an.other W5 ne_an_ap
  replace A_ak := A_ak.other W5 ne_ak_ap
  have A_ap : AI .int K.Z h5 ap (ps.set (v0) (-1 : Int32)) := N5
  refine r_iinc (1 : Int32) (fun zz => #[.val (.ref o), .val (.int zz)]) X5 cx P61m5_22 rfl rfl (fun _ => rfl) (fun i6 e_i6 => ?_)
  obtain rfl : i6 = (1 : Int32) := e_i6
  refine r_goto X5 cx P61m5_25 ?_
  refine r_iloadN X5 cx P61m5_2 rfl ?_
  refine r_aloadN X5 cx P61m5_3 rfl ?_
  refine r_getfield X5 cx P61m5_4 (hw.get 27 rfl) F_size (fun T7 X7 => ?_)
  refine r_icmpge X7 cx P61m5_7 (fun c => absurd c (by decide)) (fun _ => ?_)
  refine r_aloadN X7 cx P61m5_10 rfl ?_
  refine r_getfield X7 cx P61m5_11 (hw.get 16 rfl) F_positionOf (fun T8 X8 => ?_)
  refine r_aloadN X8 cx P61m5_14 rfl ?_
  refine r_getfield X8 cx P61m5_15 (hw.get 11 rfl) F_nodes (fun T9 X9 => ?_)
  refine r_iloadN X9 cx P61m5_18 rfl ?_
  refine r_iaload X9 cx P61m5_19 A_an (1) rfl (v := m1) rfl ?_
  refine r_iconst (-1) X9 cx P61m5_20 rfl ?_
  refine r_iastore X9 cx P61m5_21 A_ap (v1) e1 (by first | omega | (simp only [List.length_set]; omega)) g_ap (fun T10 h10 X10 W10 N10 => ?_)
  replace Kp := Kp.wr W10 (Or.inl (by simp))
  replace F_nodes := F_nodes.other W10 (Or.inl ne_o_ap)
  replace F_keys := F_keys.other W10 (Or.inl ne_o_ap)
  replace F_positionOf := F_positionOf.other W10 (Or.inl ne_o_ap)
  replace F_size := F_size.other W10 (Or.inl ne_o_ap)
  replace E_o := E_o.wr W10
  replace A_an := A_an.other W10 ne_an_ap
  replace A_ak := A_ak.other W10 ne_ak_ap
  have A_ap : AI .int K.Z h10 ap ((ps.set (v0) (-1 : Int32)).set (v1) (-1 : Int32)) := N10
  refine r_iinc (1 : Int32) (fun zz => #[.val (.ref o), .val (.int zz)]) X10 cx P61m5_22 rfl rfl (fun _ => rfl) (fun i11 e_i11 => ?_)
  obtain rfl : i11 = (2 : Int32) := e_i11
  refine r_goto X10 cx P61m5_25 ?_
  refine r_iloadN X10 cx P61m5_2 rfl ?_
  refine r_aloadN X10 cx P61m5_3 rfl ?_
  refine r_getfield X10 cx P61m5_4 (hw.get 27 rfl) F_size (fun T12 X12 => ?_)
  refine r_icmpge X12 cx P61m5_7 (fun c => absurd c (by decide)) (fun _ => ?_)
  refine r_aloadN X12 cx P61m5_10 rfl ?_
  refine r_getfield X12 cx P61m5_11 (hw.get 16 rfl) F_positionOf (fun T13 X13 => ?_)
  refine r_aloadN X13 cx P61m5_14 rfl ?_
  refine r_getfield X13 cx P61m5_15 (hw.get 11 rfl) F_nodes (fun T14 X14 => ?_)
  refine r_iloadN X14 cx P61m5_18 rfl ?_
  refine r_iaload X14 cx P61m5_19 A_an (2) rfl (v := m2) rfl ?_
  refine r_iconst (-1) X14 cx P61m5_20 rfl ?_
  refine r_iastore X14 cx P61m5_21 A_ap (v2) e2 (by first | omega | (simp only [List.length_set]; omega)) g_ap (fun T15 h15 X15 W15 N15 => ?_)
  replace Kp := Kp.wr W15 (Or.inl (by simp))
  replace F_nodes := F_nodes.other W15 (Or.inl ne_o_ap)
  replace F_keys := F_keys.other W15 (Or.inl ne_o_ap)
  replace F_positionOf := F_positionOf.other W15 (Or.inl ne_o_ap)
  replace F_size := F_size.other W15 (Or.inl ne_o_ap)
  replace E_o := E_o.wr W15
  replace A_an := A_an.other W15 ne_an_ap
  replace A_ak := A_ak.other W15 ne_ak_ap
  have A_ap : AI .int K.Z h15 ap (((ps.set (v0) (-1 : Int32)).set (v1) (-1 : Int32)).set (v2) (-1 : Int32)) := N15
  refine r_iinc (1 : Int32) (fun zz => #[.val (.ref o), .val (.int zz)]) X15 cx P61m5_22 rfl rfl (fun _ => rfl) (fun i16 e_i16 => ?_)
  obtain rfl : i16 = (3 : Int32) := e_i16
  refine r_goto X15 cx P61m5_25 ?_
  refine r_iloadN X15 cx P61m5_2 rfl ?_
  refine r_aloadN X15 cx P61m5_3 rfl ?_
  refine r_getfield X15 cx P61m5_4 (hw.get 27 rfl) F_size (fun T17 X17 => ?_)
  refine r_icmpge X17 cx P61m5_7 (fun _ => ?_) (fun c => absurd c (by decide))
  refine r_aloadN X17 cx P61m5_28 rfl ?_
  refine r_iconst (0) X17 cx P61m5_29 rfl ?_
  refine r_putfield X17 cx P61m5_30 (hw.get 27 rfl) F_size E_o (Or.inl (hw.get 28 rfl)) (hw.get 2 rfl) (ty := .int) (by decide) rfl rfl g_o (fun T18 h18 X18 W18 N18 => ?_)
  replace Kp := Kp.wr W18 (Or.inl (by simp))
  replace F_nodes := F_nodes.other W18 (Or.inr (slot_ne (Or.inr (hw.get 12 rfl)) (Or.inl (hw.get 28 rfl)) (by decide) (t := .array .int) (t' := .int) (by decide) (by decide)))
  replace F_keys := F_keys.other W18 (Or.inr (slot_ne (Or.inr (hw.get 15 rfl)) (Or.inl (hw.get 28 rfl)) (by decide) (t := .array .long) (t' := .int) (by decide) (by decide)))
  replace F_positionOf := F_positionOf.other W18 (Or.inr (slot_ne (Or.inr (hw.get 17 rfl)) (Or.inl (hw.get 28 rfl)) (by decide) (t := .array .int) (t' := .int) (by decide) (by decide)))
  replace E_o := E_o.wr W18
  replace A_an := A_an.other W18 ne_o_an.symm
  replace A_ak := A_ak.other W18 ne_o_ak.symm
  replace A_ap := A_ap.other W18 ne_o_ap.symm
  have F_size := N18
  refine r_return X18 cx P61m5_33 (by decide) (by decide) ?_
  exact ⟨Kp.1, rfl, E_o, F_nodes, F_keys, F_positionOf, F_size, A_an, A_ak, A_ap, ne_o_an, ne_o_ak, ne_o_ap, ne_an_ak, ne_an_ap, ne_ak_ap, g_o, g_an, g_ak, g_ap⟩
theorem P61m4_0 : Dc prog_61_method_4_code 0 (.aload_n 0) 1 1 := ⟨(by decide +kernel), rfl⟩
theorem P61m4_1 : Dc prog_61_method_4_code 1 (.getfield 7) 3 4 := ⟨(by decide +kernel), rfl⟩
theorem P61m4_4 : Dc prog_61_method_4_code 4 (.iconst 0) 1 5 := ⟨(by decide +kernel), rfl⟩
theorem P61m4_5 : Dc prog_61_method_4_code 5 (.iaload) 1 6 := ⟨(by decide +kernel), rfl⟩
theorem P61m4_6 : Dc prog_61_method_4_code 6 (.istore_n 1) 1 7 := ⟨(by decide +kernel), rfl⟩
theorem P61m4_7 : Dc prog_61_method_4_code 7 (.aload_n 0) 1 8 := ⟨(by decide +kernel), rfl⟩
theorem P61m4_8 : Dc prog_61_method_4_code 8 (.getfield 17) 3 11 := ⟨(by decide +kernel), rfl⟩
theorem P61m4_11 : Dc prog_61_method_4_code 11 (.iload_n 1) 1 12 := ⟨(by decide +kernel), rfl⟩
theorem P61m4_12 : Dc prog_61_method_4_code 12 (.iconst (-1)) 1 13 := ⟨(by decide +kernel), rfl⟩
theorem P61m4_13 : Dc prog_61_method_4_code 13 (.iastore) 1 14 := ⟨(by decide +kernel), rfl⟩
theorem P61m4_14 : Dc prog_61_method_4_code 14 (.aload_n 0) 1 15 := ⟨(by decide +kernel), rfl⟩
theorem P61m4_15 : Dc prog_61_method_4_code 15 (.dup) 1 16 := ⟨(by decide +kernel), rfl⟩
theorem P61m4_16 : Dc prog_61_method_4_code 16 (.getfield 26) 3 19 := ⟨(by decide +kernel), rfl⟩
theorem P61m4_19 : Dc prog_61_method_4_code 19 (.iconst 1) 1 20 := ⟨(by decide +kernel), rfl⟩
theorem P61m4_20 : Dc prog_61_method_4_code 20 (.isub) 1 21 := ⟨(by decide +kernel), rfl⟩
theorem P61m4_21 : Dc prog_61_method_4_code 21 (.putfield 26) 3 24 := ⟨(by decide +kernel), rfl⟩
theorem P61m4_24 : Dc prog_61_method_4_code 24 (.aload_n 0) 1 25 := ⟨(by decide +kernel), rfl⟩
theorem P61m4_25 : Dc prog_61_method_4_code 25 (.getfield 26) 3 28 := ⟨(by decide +kernel), rfl⟩
theorem P61m4_28 : Db prog_61_method_4_code 28 (.ifCond .le 26) (26) 31 54 := ⟨(by decide +kernel), rfl, by decide, by decide⟩
theorem P61m4_31 : Dc prog_61_method_4_code 31 (.aload_n 0) 1 32 := ⟨(by decide +kernel), rfl⟩
theorem P61m4_32 : Dc prog_61_method_4_code 32 (.aload_n 0) 1 33 := ⟨(by decide +kernel), rfl⟩
theorem P61m4_33 : Dc prog_61_method_4_code 33 (.getfield 7) 3 36 := ⟨(by decide +kernel), rfl⟩
theorem P61m4_36 : Dc prog_61_method_4_code 36 (.aload_n 0) 1 37 := ⟨(by decide +kernel), rfl⟩
theorem P61m4_37 : Dc prog_61_method_4_code 37 (.getfield 26) 3 40 := ⟨(by decide +kernel), rfl⟩
theorem P61m4_40 : Dc prog_61_method_4_code 40 (.iaload) 1 41 := ⟨(by decide +kernel), rfl⟩
theorem P61m4_41 : Dc prog_61_method_4_code 41 (.aload_n 0) 1 42 := ⟨(by decide +kernel), rfl⟩
theorem P61m4_42 : Dc prog_61_method_4_code 42 (.getfield 13) 3 45 := ⟨(by decide +kernel), rfl⟩
theorem P61m4_45 : Dc prog_61_method_4_code 45 (.aload_n 0) 1 46 := ⟨(by decide +kernel), rfl⟩
theorem P61m4_46 : Dc prog_61_method_4_code 46 (.getfield 26) 3 49 := ⟨(by decide +kernel), rfl⟩
theorem P61m4_49 : Dc prog_61_method_4_code 49 (.laload) 1 50 := ⟨(by decide +kernel), rfl⟩
theorem P61m4_50 : Dc prog_61_method_4_code 50 (.iconst 0) 1 51 := ⟨(by decide +kernel), rfl⟩
theorem P61m4_51 : Dc prog_61_method_4_code 51 (.invokevirtual 34) 3 54 := ⟨(by decide +kernel), rfl⟩
theorem P61m4_54 : Dc prog_61_method_4_code 54 (.iload_n 1) 1 55 := ⟨(by decide +kernel), rfl⟩
theorem P61m4_55 : Dc prog_61_method_4_code 55 (.ireturn) 1 56 := ⟨(by decide +kernel), rfl⟩
theorem ef_P61m4_1 (m : MethodId) (o : Addr) : entryFrame m #[(.ref o)] 2 = mkF m 0 #[.val (.ref o), .unset] [] := by first | (simp [entryFrame, mkF, argsToLocals, Value.category]; done) | rfl
set_option maxRecDepth 65536 in
set_option maxHeartbeats 40000000 in
theorem con_P61m4_1 (l : Launch) (Z : State) (a0 : Array Value) (hw : Tb tables_1 a0 Z) (o : Addr) (h0 : Heap) (n0 : Nat) (Z0 : n0 ≤ h0.size) (an ak ap : Addr) (m0 m1 m2 : Int32) (k0 k1 k2 : Int64) (ps : List Int32) (hpl : ps.length = 4) (B : NH Z n0 h0 o an ak ap [m0, m1, m2] [k0, k1, k2] ps 1) (v0 : Nat) (e0 : m0 = Int32.ofNat v0) (h0v : v0 < 4) :
    Con l Z (⟨"com/example/lacewood/lacewood/paths/NodeHeap", "poll", "()I"⟩ : MethodName) prog_61_method_4_code 2 (some (.int)) ({ frames := 0, cells := 0, slots := 0, locals := 0 } : Room) #[(.ref o)] h0 n0 (fun u h => h0.size ≤ h.size ∧ u = some (.int m0) ∧ NH Z n0 h o an ak ap [m0, m1, m2] [k0, k1, k2] (ps.set v0 (-1)) 0) := by
  refine Con.of (plainFor_of_name (by decide +kernel)) Z0 ?_
  intro K hl hZ hn cx T0 X0
  subst hl hZ hn
  refine Run.cast (ef_P61m4_1 K.m o) ?_
  obtain ⟨E_o, F_nodes, F_keys, F_positionOf, F_size, A_an, A_ak, A_ap, ne_o_an, ne_o_ak, ne_o_ap, ne_an_ak, ne_an_ap, ne_ak_ap, g_o, g_an, g_ak, g_ap⟩ := B
  have Kp : Keep h0 h0 [o, ap] := Keep.refl _ _
  refine r_aloadN X0 cx P61m4_0 rfl ?_
  refine r_getfield X0 cx P61m4_1 (hw.get 11 rfl) F_nodes (fun T1 X1 => ?_)
  refine r_iconst (0) X1 cx P61m4_4 rfl ?_
  refine r_iaload X1 cx P61m4_5 A_an (0) rfl (v := m0) rfl ?_
  refine r_istoreN (fun zz => #[.val (.ref o), .val (.int zz)]) X1 cx P61m4_6 (fun _ => rfl) (fun i2 e_i2 => ?_)
  replace e_i2 := e_i2.symm
  subst e_i2
  refine r_aloadN X1 cx P61m4_7 rfl ?_
  refine r_getfield X1 cx P61m4_8 (hw.get 16 rfl) F_positionOf (fun T3 X3 => ?_)
  refine r_iloadN X3 cx P61m4_11 rfl ?_
  refine r_iconst (-1) X3 cx P61m4_12 rfl ?_
  refine r_iastore X3 cx P61m4_13 A_ap (v0) e0 (by omega) g_ap (fun T4 h4 X4 W4 N4 => ?_)
  replace Kp := Kp.wr W4 (Or.inl (by simp))
  replace F_nodes := F_nodes.other W4 (Or.inl ne_o_ap)
  replace F_keys := F_keys.other W4 (Or.inl ne_o_ap)
  replace F_positionOf := F_positionOf.other W4 (Or.inl ne_o_ap)
  replace F_size := F_size.other W4 (Or.inl ne_o_ap)
  replace E_o := E_o.wr W4
  replace A_an := A_an.other W4 ne_an_ap
  replace A_ak := A_ak.other W4 ne_ak_ap
  have A_ap : AI .int K.Z h4 ap (ps.set (v0) (-1 : Int32)) := N4
  refine r_aloadN X4 cx P61m4_14 rfl ?_
  refine r_dup X4 cx P61m4_15 rfl ?_
  refine r_getfield X4 cx P61m4_16 (hw.get 27 rfl) F_size (fun T5 X5 => ?_)
  refine r_iconst (1) X5 cx P61m4_19 rfl ?_
  refine r_isub X5 cx P61m4_20 ?_
  refine r_top (v' := 0) (by decide) ?_
  refine r_putfield X5 cx P61m4_21 (hw.get 27 rfl) F_size E_o (Or.inl (hw.get 28 rfl)) (hw.get 2 rfl) (ty := .int) (by decide) rfl rfl g_o (fun T6 h6 X6 W6 N6 => ?_)
  replace Kp := Kp.wr W6 (Or.inl (by simp))
  replace F_nodes := F_nodes.other W6 (Or.inr (slot_ne (Or.inr (hw.get 12 rfl)) (Or.inl (hw.get 28 rfl)) (by decide) (t := .array .int) (t' := .int) (by decide) (by decide)))
  replace F_keys := F_keys.other W6 (Or.inr (slot_ne (Or.inr (hw.get 15 rfl)) (Or.inl (hw.get 28 rfl)) (by decide) (t := .array .long) (t' := .int) (by decide) (by decide)))
  replace F_positionOf := F_positionOf.other W6 (Or.inr (slot_ne (Or.inr (hw.get 17 rfl)) (Or.inl (hw.get 28 rfl)) (by decide) (t := .array .int) (t' := .int) (by decide) (by decide)))
  replace E_o := E_o.wr W6
  replace A_an := A_an.other W6 ne_o_an.symm
  replace A_ak := A_ak.other W6 ne_o_ak.symm
  replace A_ap := A_ap.other W6 ne_o_ap.symm
  have F_size := N6
  refine r_aloadN X6 cx P61m4_24 rfl ?_
  refine r_getfield X6 cx P61m4_25 (hw.get 27 rfl) F_size (fun T7 X7 => ?_)
  refine r_ifle X7 cx P61m4_28 (fun _ => ?_) (fun c => absurd c (by decide))
  refine r_iloadN X7 cx P61m4_54 rfl ?_
  refine r_ireturn X7 cx P61m4_55 (by decide) (by decide) ?_
  exact ⟨Kp.1, rfl, E_o, F_nodes, F_keys, F_positionOf, F_size, A_an, A_ak, A_ap, ne_o_an, ne_o_ak, ne_o_ap, ne_an_ak, ne_an_ap, ne_ak_ap, g_o, g_an, g_ak, g_ap⟩
theorem P61m7_0 : Dc prog_61_method_7_code 0 (.iload 4) 2 2 := ⟨(by decide +kernel), rfl⟩
theorem P61m7_2 : Dc prog_61_method_7_code 2 (.istore 5) 2 4 := ⟨(by decide +kernel), rfl⟩
theorem P61m7_4 : Dc prog_61_method_7_code 4 (.aload_n 0) 1 5 := ⟨(by decide +kernel), rfl⟩
theorem P61m7_5 : Dc prog_61_method_7_code 5 (.getfield 26) 3 8 := ⟨(by decide +kernel), rfl⟩
theorem P61m7_8 : Dc prog_61_method_7_code 8 (.iconst 1) 1 9 := ⟨(by decide +kernel), rfl⟩
theorem P61m7_9 : Dc prog_61_method_7_code 9 (.iushr) 1 10 := ⟨(by decide +kernel), rfl⟩
theorem P61m7_10 : Dc prog_61_method_7_code 10 (.istore 6) 2 12 := ⟨(by decide +kernel), rfl⟩
theorem P61m7_12 : Dc prog_61_method_7_code 12 (.iload 5) 2 14 := ⟨(by decide +kernel), rfl⟩
theorem P61m7_14 : Dc prog_61_method_7_code 14 (.iload 6) 2 16 := ⟨(by decide +kernel), rfl⟩
theorem P61m7_16 : Db prog_61_method_7_code 16 (.if_icmp .ge 87) (87) 19 103 := ⟨(by decide +kernel), rfl, by decide, by decide⟩
theorem P61m7_19 : Dc prog_61_method_7_code 19 (.iconst 2) 1 20 := ⟨(by decide +kernel), rfl⟩
theorem P61m7_20 : Dc prog_61_method_7_code 20 (.iload 5) 2 22 := ⟨(by decide +kernel), rfl⟩
theorem P61m7_22 : Dc prog_61_method_7_code 22 (.imul) 1 23 := ⟨(by decide +kernel), rfl⟩
theorem P61m7_23 : Dc prog_61_method_7_code 23 (.iconst 1) 1 24 := ⟨(by decide +kernel), rfl⟩
theorem P61m7_24 : Dc prog_61_method_7_code 24 (.iadd) 1 25 := ⟨(by decide +kernel), rfl⟩
theorem P61m7_25 : Dc prog_61_method_7_code 25 (.istore 7) 2 27 := ⟨(by decide +kernel), rfl⟩
theorem P61m7_27 : Dc prog_61_method_7_code 27 (.iload 7) 2 29 := ⟨(by decide +kernel), rfl⟩
theorem P61m7_29 : Dc prog_61_method_7_code 29 (.iconst 1) 1 30 := ⟨(by decide +kernel), rfl⟩
theorem P61m7_30 : Dc prog_61_method_7_code 30 (.iadd) 1 31 := ⟨(by decide +kernel), rfl⟩
theorem P61m7_31 : Dc prog_61_method_7_code 31 (.aload_n 0) 1 32 := ⟨(by decide +kernel), rfl⟩
theorem P61m7_32 : Dc prog_61_method_7_code 32 (.getfield 26) 3 35 := ⟨(by decide +kernel), rfl⟩
theorem P61m7_35 : Db prog_61_method_7_code 35 (.if_icmp .ge 26) (26) 38 61 := ⟨(by decide +kernel), rfl, by decide, by decide⟩
theorem P61m7_38 : Dc prog_61_method_7_code 38 (.aload_n 0) 1 39 := ⟨(by decide +kernel), rfl⟩
theorem P61m7_39 : Dc prog_61_method_7_code 39 (.getfield 13) 3 42 := ⟨(by decide +kernel), rfl⟩
theorem P61m7_42 : Dc prog_61_method_7_code 42 (.iload 7) 2 44 := ⟨(by decide +kernel), rfl⟩
theorem P61m7_44 : Dc prog_61_method_7_code 44 (.iconst 1) 1 45 := ⟨(by decide +kernel), rfl⟩
theorem P61m7_45 : Dc prog_61_method_7_code 45 (.iadd) 1 46 := ⟨(by decide +kernel), rfl⟩
theorem P61m7_46 : Dc prog_61_method_7_code 46 (.laload) 1 47 := ⟨(by decide +kernel), rfl⟩
theorem P61m7_47 : Dc prog_61_method_7_code 47 (.aload_n 0) 1 48 := ⟨(by decide +kernel), rfl⟩
theorem P61m7_48 : Dc prog_61_method_7_code 48 (.getfield 13) 3 51 := ⟨(by decide +kernel), rfl⟩
theorem P61m7_51 : Dc prog_61_method_7_code 51 (.iload 7) 2 53 := ⟨(by decide +kernel), rfl⟩
theorem P61m7_53 : Dc prog_61_method_7_code 53 (.laload) 1 54 := ⟨(by decide +kernel), rfl⟩
theorem P61m7_54 : Dc prog_61_method_7_code 54 (.lcmp) 1 55 := ⟨(by decide +kernel), rfl⟩
theorem P61m7_55 : Db prog_61_method_7_code 55 (.ifCond .ge 6) (6) 58 61 := ⟨(by decide +kernel), rfl, by decide, by decide⟩
theorem P61m7_58 : Dc prog_61_method_7_code 58 (.iinc 7 1) 3 61 := ⟨(by decide +kernel), rfl⟩
theorem P61m7_61 : Dc prog_61_method_7_code 61 (.lload_n 2) 1 62 := ⟨(by decide +kernel), rfl⟩
theorem P61m7_62 : Dc prog_61_method_7_code 62 (.aload_n 0) 1 63 := ⟨(by decide +kernel), rfl⟩
theorem P61m7_63 : Dc prog_61_method_7_code 63 (.getfield 13) 3 66 := ⟨(by decide +kernel), rfl⟩
theorem P61m7_66 : Dc prog_61_method_7_code 66 (.iload 7) 2 68 := ⟨(by decide +kernel), rfl⟩
theorem P61m7_68 : Dc prog_61_method_7_code 68 (.laload) 1 69 := ⟨(by decide +kernel), rfl⟩
theorem P61m7_69 : Dc prog_61_method_7_code 69 (.lcmp) 1 70 := ⟨(by decide +kernel), rfl⟩
theorem P61m7_70 : Db prog_61_method_7_code 70 (.ifCond .gt 6) (6) 73 76 := ⟨(by decide +kernel), rfl, by decide, by decide⟩
theorem P61m7_73 : Db prog_61_method_7_code 73 (.goto 30) (30) 76 103 := ⟨(by decide +kernel), rfl, by decide, by decide⟩
theorem P61m7_76 : Dc prog_61_method_7_code 76 (.aload_n 0) 1 77 := ⟨(by decide +kernel), rfl⟩
theorem P61m7_77 : Dc prog_61_method_7_code 77 (.aload_n 0) 1 78 := ⟨(by decide +kernel), rfl⟩
theorem P61m7_78 : Dc prog_61_method_7_code 78 (.getfield 7) 3 81 := ⟨(by decide +kernel), rfl⟩
theorem P61m7_81 : Dc prog_61_method_7_code 81 (.iload 7) 2 83 := ⟨(by decide +kernel), rfl⟩
theorem P61m7_83 : Dc prog_61_method_7_code 83 (.iaload) 1 84 := ⟨(by decide +kernel), rfl⟩
theorem P61m7_84 : Dc prog_61_method_7_code 84 (.aload_n 0) 1 85 := ⟨(by decide +kernel), rfl⟩
theorem P61m7_85 : Dc prog_61_method_7_code 85 (.getfield 13) 3 88 := ⟨(by decide +kernel), rfl⟩
theorem P61m7_88 : Dc prog_61_method_7_code 88 (.iload 7) 2 90 := ⟨(by decide +kernel), rfl⟩
theorem P61m7_90 : Dc prog_61_method_7_code 90 (.laload) 1 91 := ⟨(by decide +kernel), rfl⟩
theorem P61m7_91 : Dc prog_61_method_7_code 91 (.iload 5) 2 93 := ⟨(by decide +kernel), rfl⟩
theorem P61m7_93 : Dc prog_61_method_7_code 93 (.invokevirtual 37) 3 96 := ⟨(by decide +kernel), rfl⟩
theorem P61m7_96 : Dc prog_61_method_7_code 96 (.iload 7) 2 98 := ⟨(by decide +kernel), rfl⟩
theorem P61m7_98 : Dc prog_61_method_7_code 98 (.istore 5) 2 100 := ⟨(by decide +kernel), rfl⟩
theorem P61m7_100 : Db prog_61_method_7_code 100 (.goto (-88)) (-88) 103 12 := ⟨(by decide +kernel), rfl, by decide, by decide⟩
theorem P61m7_103 : Dc prog_61_method_7_code 103 (.aload_n 0) 1 104 := ⟨(by decide +kernel), rfl⟩
theorem P61m7_104 : Dc prog_61_method_7_code 104 (.iload_n 1) 1 105 := ⟨(by decide +kernel), rfl⟩
theorem P61m7_105 : Dc prog_61_method_7_code 105 (.lload_n 2) 1 106 := ⟨(by decide +kernel), rfl⟩
theorem P61m7_106 : Dc prog_61_method_7_code 106 (.iload 5) 2 108 := ⟨(by decide +kernel), rfl⟩
theorem P61m7_108 : Dc prog_61_method_7_code 108 (.invokevirtual 37) 3 111 := ⟨(by decide +kernel), rfl⟩
theorem P61m7_111 : Dc prog_61_method_7_code 111 (.return_) 1 112 := ⟨(by decide +kernel), rfl⟩
theorem ef_P61m7_1 (m : MethodId) (o : Addr) (nd : Int32) (ke : Int64) : entryFrame m #[(.ref o), (.int nd), (.long ke), (.int (0 : Int32))] 8 = mkF m 0 #[.val (.ref o), .val (.int nd), .val (.long ke), .second, .val (.int (0 : Int32)), .unset, .unset, .unset] [] := by first | (simp [entryFrame, mkF, argsToLocals, Value.category]; done) | rfl
set_option maxRecDepth 65536 in
set_option maxHeartbeats 40000000 in
theorem con_P61m7_1 (l : Launch) (Z : State) (a0 : Array Value) (hw : Tb tables_1 a0 Z) (o : Addr) (nd : Int32) (ke : Int64) (h0 : Heap) (n0 : Nat) (Z0 : n0 ≤ h0.size) (an ak ap : Addr) (m0 m1 m2 : Int32) (k0 k1 k2 : Int64) (ps : List Int32) (hpl : ps.length = 4) (B : NH Z n0 h0 o an ak ap [m0, m1, m2] [k0, k1, k2] ps 1) (vn : Nat) (ev : nd = Int32.ofNat vn) (hvn : vn < 4) :
    Con l Z (⟨"com/example/lacewood/lacewood/paths/NodeHeap", "siftDown", "(IJI)V"⟩ : MethodName) prog_61_method_7_code 8 (none) ({ frames := 1, cells := 0, slots := 0, locals := 16 } : Room) #[(.ref o), (.int nd), (.long ke), (.int (0 : Int32))] h0 n0 (fun u h => h0.size ≤ h.size ∧ u = none ∧ NH Z n0 h o an ak ap [nd, m1, m2] [ke, k1, k2] (ps.set vn 0) 1) := by
  refine Con.of (plainFor_of_name (by decide +kernel)) Z0 ?_
  intro K hl hZ hn cx T0 X0
  subst hl hZ hn
  refine Run.cast (ef_P61m7_1 K.m o nd ke) ?_
  obtain ⟨E_o, F_nodes, F_keys, F_positionOf, F_size, A_an, A_ak, A_ap, ne_o_an, ne_o_ak, ne_o_ap, ne_an_ak, ne_an_ap, ne_ak_ap, g_o, g_an, g_ak, g_ap⟩ := B
  refine r_iload X0 cx P61m7_0 rfl ?_
  refine r_istore (fun zz => #[.val (.ref o), .val (.int nd), .val (.long ke), .second, .val (.int (0 : Int32)), .val (.int zz), .unset, .unset]) X0 cx P61m7_2 (fun _ => rfl) (fun i1 e_i1 => ?_)
  subst e_i1
  refine r_aloadN X0 cx P61m7_4 rfl ?_
  refine r_getfield X0 cx P61m7_5 (hw.get 27 rfl) F_size (fun T2 X2 => ?_)
  refine r_iconst (1) X2 cx P61m7_8 rfl ?_
  refine r_iushr X2 cx P61m7_9 ?_
  refine r_top (v' := 0) (by decide) ?_
  refine r_istore (fun zz => #[.val (.ref o), .val (.int nd), .val (.long ke), .second, .val (.int (0 : Int32)), .val (.int (0 : Int32)), .val (.int zz), .unset]) X2 cx P61m7_10 (fun _ => rfl) (fun i3 e_i3 => ?_)
  subst e_i3
  refine r_iload X2 cx P61m7_12 rfl ?_
  refine r_iload X2 cx P61m7_14 rfl ?_
  refine r_icmpge X2 cx P61m7_16 (fun _ => ?_) (fun c => absurd c (by decide))
  refine r_aloadN X2 cx P61m7_103 rfl ?_
  refine r_iloadN X2 cx P61m7_104 rfl ?_
  refine r_lloadN X2 cx P61m7_105 rfl ?_
  refine r_iload X2 cx P61m7_106 rfl ?_
  refine r_private [(.int nd), (.long ke), (.int (0 : Int32))] [] X2 cx P61m7_108 E_o (hw.get 38 rfl) (hw.get 25 rfl) (hw.get 39 rfl) (hw.get 40 rfl) (hw.get 3 rfl) (hw.get 41 rfl) rfl (by decide) (con_P61m8 K.l K.Z a0 hw o nd ke (0 : Int32) h0 K.n0 X2.ge an ak ap [m0, m1, m2] [k0, k1, k2] ps (1 : Int32) ⟨E_o, F_nodes, F_keys, F_positionOf, F_size, A_an, A_ak, A_ap, ne_o_an, ne_o_ak, ne_o_ap, ne_an_ak, ne_an_ap, ne_ak_ap, g_o, g_an, g_ak, g_ap⟩ vn 0 ev rfl (ltb rfl) (ltb rfl) (by first | omega | (simp only [List.length_set]; omega))) (lenOf pd_1 rfl) rfl rfl (by decide) (leb rfl) (by decide) (by decide) (fun T4 h4 v4 X4 q4 => ?_) (fun _ _ q => q.1)
  obtain ⟨z4, rfl, B4⟩ := q4
  replace B4 : NH K.Z K.n0 h4 o an ak ap [nd, m1, m2] [ke, k1, k2] (ps.set vn (0 : Int32)) (1 : Int32) := B4
  obtain ⟨E_o, F_nodes, F_keys, F_positionOf, F_size, A_an, A_ak, A_ap, ne_o_an, ne_o_ak, ne_o_ap, ne_an_ak, ne_an_ap, ne_ak_ap, g_o, g_an, g_ak, g_ap⟩ := B4
  refine r_return X4 cx P61m7_111 (by decide) (by decide) ?_
  exact ⟨z4, rfl, ⟨E_o, F_nodes, F_keys, F_positionOf, F_size, A_an, A_ak, A_ap, ne_o_an, ne_o_ak, ne_o_ap, ne_an_ak, ne_an_ap, ne_ak_ap, g_o, g_an, g_ak, g_ap⟩⟩
theorem ef_P61m4_2 (m : MethodId) (o : Addr) : entryFrame m #[(.ref o)] 2 = mkF m 0 #[.val (.ref o), .unset] [] := by first | (simp [entryFrame, mkF, argsToLocals, Value.category]; done) | rfl
set_option maxRecDepth 65536 in
set_option maxHeartbeats 40000000 in
theorem con_P61m4_2 (l : Launch) (Z : State) (a0 : Array Value) (hw : Tb tables_1 a0 Z) (o : Addr) (h0 : Heap) (n0 : Nat) (Z0 : n0 ≤ h0.size) (an ak ap : Addr) (m0 m1 m2 : Int32) (k0 k1 k2 : Int64) (ps : List Int32) (hpl : ps.length = 4) (B : NH Z n0 h0 o an ak ap [m0, m1, m2] [k0, k1, k2] ps 2) (v0 v1 : Nat) (e0 : m0 = Int32.ofNat v0) (e1 : m1 = Int32.ofNat v1) (h0v : v0 < 4) (h1v : v1 < 4) :
    Con l Z (⟨"com/example/lacewood/lacewood/paths/NodeHeap", "poll", "()I"⟩ : MethodName) prog_61_method_4_code 2 (some (.int)) ({ frames := 2, cells := 0, slots := 0, locals := 36 } : Room) #[(.ref o)] h0 n0 (fun u h => h0.size ≤ h.size ∧ u = some (.int m0) ∧ NH Z n0 h o an ak ap [m1, m1, m2] [k1, k1, k2] ((ps.set v0 (-1)).set v1 0) 1) := by
  refine Con.of (plainFor_of_name (by decide +kernel)) Z0 ?_
  intro K hl hZ hn cx T0 X0
  subst hl hZ hn
  refine Run.cast (ef_P61m4_2 K.m o) ?_
  obtain ⟨E_o, F_nodes, F_keys, F_positionOf, F_size, A_an, A_ak, A_ap, ne_o_an, ne_o_ak, ne_o_ap, ne_an_ak, ne_an_ap, ne_ak_ap, g_o, g_an, g_ak, g_ap⟩ := B
  have Kp : Keep h0 h0 [o, ap] := Keep.refl _ _
  refine r_aloadN X0 cx P61m4_0 rfl ?_
  refine r_getfield X0 cx P61m4_1 (hw.get 11 rfl) F_nodes (fun T1 X1 => ?_)
  refine r_iconst (0) X1 cx P61m4_4 rfl ?_
  refine r_iaload X1 cx P61m4_5 A_an (0) rfl (v := m0) rfl ?_
  refine r_istoreN (fun zz => #[.val (.ref o), .val (.int zz)]) X1 cx P61m4_6 (fun _ => rfl) (fun i2 e_i2 => ?_)
  replace e_i2 := e_i2.symm
  subst e_i2
  refine r_aloadN X1 cx P61m4_7 rfl ?_
  refine r_getfield X1 cx P61m4_8 (hw.get 16 rfl) F_positionOf (fun T3 X3 => ?_)
  refine r_iloadN X3 cx P61m4_11 rfl ?_
  refine r_iconst (-1) X3 cx P61m4_12 rfl ?_
  refine r_iastore X3 cx P61m4_13 A_ap (v0) e0 (by omega) g_ap (fun T4 h4 X4 W4 N4 => ?_)
  replace Kp := Kp.wr W4 (Or.inl (by simp))
  replace F_nodes := F_nodes.other W4 (Or.inl ne_o_ap)
  replace F_keys := F_keys.other W4 (Or.inl ne_o_ap)
  replace F_positionOf := F_positionOf.other W4 (Or.inl ne_o_ap)
  replace F_size := F_size.other W4 (Or.inl ne_o_ap)
  replace E_o := E_o.wr W4
  replace A_an := A_an.other W4 ne_an_ap
  replace A_ak := A_ak.other W4 ne_ak_ap
  have A_ap : AI .int K.Z h4 ap (ps.set (v0) (-1 : Int32)) := N4
  refine r_aloadN X4 cx P61m4_14 rfl ?_
  refine r_dup X4 cx P61m4_15 rfl ?_
  refine r_getfield X4 cx P61m4_16 (hw.get 27 rfl) F_size (fun T5 X5 => ?_)
  refine r_iconst (1) X5 cx P61m4_19 rfl ?_
  refine r_isub X5 cx P61m4_20 ?_
  refine r_top (v' := 1) (by decide) ?_
  refine r_putfield X5 cx P61m4_21 (hw.get 27 rfl) F_size E_o (Or.inl (hw.get 28 rfl)) (hw.get 2 rfl) (ty := .int) (by decide) rfl rfl g_o (fun T6 h6 X6 W6 N6 => ?_)
  replace Kp := Kp.wr W6 (Or.inl (by simp))
  replace F_nodes := F_nodes.other W6 (Or.inr (slot_ne (Or.inr (hw.get 12 rfl)) (Or.inl (hw.get 28 rfl)) (by decide) (t := .array .int) (t' := .int) (by decide) (by decide)))
  replace F_keys := F_keys.other W6 (Or.inr (slot_ne (Or.inr (hw.get 15 rfl)) (Or.inl (hw.get 28 rfl)) (by decide) (t := .array .long) (t' := .int) (by decide) (by decide)))
  replace F_positionOf := F_positionOf.other W6 (Or.inr (slot_ne (Or.inr (hw.get 17 rfl)) (Or.inl (hw.get 28 rfl)) (by decide) (t := .array .int) (t' := .int) (by decide) (by decide)))
  replace E_o := E_o.wr W6
  replace A_an := A_an.other W6 ne_o_an.symm
  replace A_ak := A_ak.other W6 ne_o_ak.symm
  replace A_ap := A_ap.other W6 ne_o_ap.symm
  have F_size := N6
  refine r_aloadN X6 cx P61m4_24 rfl ?_
  refine r_getfield X6 cx P61m4_25 (hw.get 27 rfl) F_size (fun T7 X7 => ?_)
  refine r_ifle X7 cx P61m4_28 (fun c => absurd c (by decide)) (fun _ => ?_)
  refine r_aloadN X7 cx P61m4_31 rfl ?_
  refine r_aloadN X7 cx P61m4_32 rfl ?_
  refine r_getfield X7 cx P61m4_33 (hw.get 11 rfl) F_nodes (fun T8 X8 => ?_)
  refine r_aloadN X8 cx P61m4_36 rfl ?_
  refine r_getfield X8 cx P61m4_37 (hw.get 27 rfl) F_size (fun T9 X9 => ?_)
  refine r_iaload X9 cx P61m4_40 A_an (1) rfl (v := m1) rfl ?_
  refine r_aloadN X9 cx P61m4_41 rfl ?_
  refine r_getfield X9 cx P61m4_42 (hw.get 14 rfl) F_keys (fun T10 X10 => ?_)
  refine r_aloadN X10 cx P61m4_45 rfl ?_
  refine r_getfield X10 cx P61m4_46 (hw.get 27 rfl) F_size (fun T11 X11 => ?_)
  refine r_laload X11 cx P61m4_49 A_ak (1) rfl (v := k1) rfl ?_
  refine r_iconst (0) X11 cx P61m4_50 rfl ?_
  refine r_private [(.int m1), (.long k1), (.int (0 : Int32))] [] X11 cx P61m4_51 E_o (hw.get 52 rfl) (hw.get 25 rfl) (hw.get 53 rfl) (hw.get 54 rfl) (hw.get 3 rfl) (hw.get 55 rfl) rfl (by decide) (con_P61m7_1 K.l K.Z a0 hw o m1 k1 h6 K.n0 X11.ge an ak ap m0 m1 m2 k0 k1 k2 (ps.set v0 (-1)) (by first | omega | (simp only [List.length_set]; omega)) ⟨E_o, F_nodes, F_keys, F_positionOf, F_size, A_an, A_ak, A_ap, ne_o_an, ne_o_ak, ne_o_ap, ne_an_ak, ne_an_ap, ne_ak_ap, g_o, g_an, g_ak, g_ap⟩ v1 e1 h1v) (lenOf pd_1 rfl) rfl rfl (by decide) (leb rfl) (by decide) (by decide) (fun T12 h12 v12 X12 q12 => ?_) (fun _ _ q => q.1)
  obtain ⟨z12, rfl, B12⟩ := q12
  refine r_iloadN X12 cx P61m4_54 rfl ?_
  refine r_ireturn X12 cx P61m4_55 (by decide) (by decide) ?_
  exact ⟨Nat.le_trans Kp.1 z12, rfl, B12⟩
theorem own_irem (x y : Int32) (hx : 0 ≤ x.toInt) (hy : 0 < y.toInt) : (x - x / y * y).toInt = x.toInt % y.toInt := by
  have h1 : (x / y).toInt = x.toInt / y.toInt := by
    rw [Int32.toInt_div, Int.tdiv_eq_ediv_of_nonneg hx]
    have h2 := Int.ediv_nonneg hx (Int.le_of_lt hy)
    have h3 := Int.ediv_le_self y.toInt hx
    have := x.toInt_lt
    exact Int.bmod_eq_of_le (by omega) (by omega)
  have h2 : x.toInt / y.toInt * y.toInt = x.toInt - x.toInt % y.toInt := by
    have := Int.mul_ediv_add_emod x.toInt y.toInt
    rw [Int.mul_comm] at this; omega
  have h3 := Int.emod_nonneg x.toInt (Int.ne_of_gt hy)
  have h4 := Int.emod_lt_of_pos x.toInt hy
  have h5 : x.toInt % y.toInt ≤ x.toInt := by
    have := Int.ediv_nonneg hx (Int.le_of_lt hy)
    have := Int.mul_nonneg this (Int.le_of_lt hy)
    omega
  have := x.toInt_lt
  have hm : (x / y * y).toInt = x.toInt - x.toInt % y.toInt := by
    rw [Int32.toInt_mul, h1, h2]
    exact Int.bmod_eq_of_le (by omega) (by omega)
  rw [Int32.toInt_sub, hm]
  have : x.toInt - (x.toInt - x.toInt % y.toInt) = x.toInt % y.toInt := by omega
  rw [this]
  exact Int.bmod_eq_of_le (by omega) (by omega)
theorem own_and31 (x : Int32) : 0 ≤ (x &&& 2147483647).toInt := by
  have hle : (x &&& 2147483647).toBitVec.toNat ≤ 2147483647 := by
    rw [Int32.toBitVec_and, BitVec.toNat_and]; exact Nat.and_le_right
  show 0 ≤ (x &&& 2147483647).toBitVec.toInt
  rw [BitVec.toInt_eq_toNat_of_lt (by omega)]
  omega
theorem own_p3 (x : Int32) : ∃ v : Nat, 1 ≤ v ∧ v < 4 ∧ ((x &&& 2147483647) - (x &&& 2147483647) / 3 * 3) + (1 : Int32) = Int32.ofNat v := by
  have h := own_irem (x &&& 2147483647) 3 (own_and31 x) (by decide)
  have h2 : ((3 : Int32).toInt) = 3 := rfl
  rw [h2] at h
  have h3 := Int.emod_nonneg (x &&& 2147483647).toInt (show (3 : Int) ≠ 0 by decide)
  have h4 := Int.emod_lt_of_pos (x &&& 2147483647).toInt (show (0 : Int) < 3 by decide)
  generalize (x &&& 2147483647) - (x &&& 2147483647) / 3 * 3 = r at h
  refine ⟨r.toInt.toNat + 1, by omega, by omega, ?_⟩
  apply Int32.toInt_inj.mp
  rw [Int32.toInt_ofNat_of_lt (by omega), Int32.toInt_add]
  have : (1 : Int32).toInt = 1 := rfl
  rw [this, Int.bmod_eq_of_le (by omega) (by omega)]
  omega
theorem own_no {v : Nat} (h : v < 4) : [(-1 : Int32), -1, -1, -1][v]? = some (-1) := by
  have : v = 0 ∨ v = 1 ∨ v = 2 ∨ v = 3 := by omega
  rcases this with rfl | rfl | rfl | rfl <;> rfl
theorem own_inj {a b : Nat} (ha : a < 4) (hb : b < 4) : Int32.ofNat a = Int32.ofNat b ↔ a = b := by
  rw [← Int32.toInt_inj, Int32.toInt_ofNat_of_lt (by omega), Int32.toInt_ofNat_of_lt (by omega)]
  omega
theorem L_0 : Dc code 0 (.iload_n 0) 1 1 := ⟨at_0, rfl⟩
theorem L_1 : Dc code 1 (.ldc 7) 2 3 := ⟨at_1, rfl⟩
theorem L_3 : Dc code 3 (.iand) 1 4 := ⟨at_3, rfl⟩
theorem L_4 : Dc code 4 (.iconst 3) 1 5 := ⟨at_4, rfl⟩
theorem L_5 : Dc code 5 (.irem) 1 6 := ⟨at_5, rfl⟩
theorem L_6 : Dc code 6 (.iconst 1) 1 7 := ⟨at_6, rfl⟩
theorem L_7 : Dc code 7 (.iadd) 1 8 := ⟨at_7, rfl⟩
theorem L_8 : Dc code 8 (.istore 7) 2 10 := ⟨at_8, rfl⟩
theorem L_10 : Dc code 10 (.iload_n 1) 1 11 := ⟨at_10, rfl⟩
theorem L_11 : Dc code 11 (.ldc 7) 2 13 := ⟨at_11, rfl⟩
theorem L_13 : Dc code 13 (.iand) 1 14 := ⟨at_13, rfl⟩
theorem L_14 : Dc code 14 (.iconst 3) 1 15 := ⟨at_14, rfl⟩
theorem L_15 : Dc code 15 (.irem) 1 16 := ⟨at_15, rfl⟩
theorem L_16 : Dc code 16 (.iconst 1) 1 17 := ⟨at_16, rfl⟩
theorem L_17 : Dc code 17 (.iadd) 1 18 := ⟨at_17, rfl⟩
theorem L_18 : Dc code 18 (.istore 8) 2 20 := ⟨at_18, rfl⟩
theorem L_20 : Dc code 20 (.new 8) 3 23 := ⟨at_20, rfl⟩
theorem L_23 : Dc code 23 (.dup) 1 24 := ⟨at_23, rfl⟩
theorem L_24 : Dc code 24 (.iconst 3) 1 25 := ⟨at_24, rfl⟩
theorem L_25 : Dc code 25 (.invokespecial 10) 3 28 := ⟨at_25, rfl⟩
theorem L_28 : Dc code 28 (.astore 9) 2 30 := ⟨at_28, rfl⟩
theorem L_30 : Dc code 30 (.aload 9) 2 32 := ⟨at_30, rfl⟩
theorem L_32 : Dc code 32 (.invokevirtual 13) 3 35 := ⟨at_32, rfl⟩
theorem L_35 : Dc code 35 (.istore 10) 2 37 := ⟨at_35, rfl⟩
theorem L_37 : Dc code 37 (.aload 9) 2 39 := ⟨at_37, rfl⟩
theorem L_39 : Dc code 39 (.iload 7) 2 41 := ⟨at_39, rfl⟩
theorem L_41 : Dc code 41 (.lload_n 3) 1 42 := ⟨at_41, rfl⟩
theorem L_42 : Dc code 42 (.invokevirtual 17) 3 45 := ⟨at_42, rfl⟩
theorem L_45 : Dc code 45 (.iload 10) 2 47 := ⟨at_45, rfl⟩
theorem L_47 : Db code 47 (.ifCond .eq 15) (15) 50 62 := ⟨at_47, rfl, by decide, by decide⟩
theorem L_50 : Dc code 50 (.aload 9) 2 52 := ⟨at_50, rfl⟩
theorem L_52 : Dc code 52 (.invokevirtual 13) 3 55 := ⟨at_52, rfl⟩
theorem L_55 : Db code 55 (.ifCond .ne 7) (7) 58 62 := ⟨at_55, rfl, by decide, by decide⟩
theorem L_58 : Dc code 58 (.iconst 1) 1 59 := ⟨at_58, rfl⟩
theorem L_59 : Db code 59 (.goto 4) (4) 62 63 := ⟨at_59, rfl, by decide, by decide⟩
theorem L_62 : Dc code 62 (.iconst 0) 1 63 := ⟨at_62, rfl⟩
theorem L_63 : Dc code 63 (.istore 10) 2 65 := ⟨at_63, rfl⟩
theorem L_65 : Dc code 65 (.aload 9) 2 67 := ⟨at_65, rfl⟩
theorem L_67 : Dc code 67 (.iload 8) 2 69 := ⟨at_67, rfl⟩
theorem L_69 : Dc code 69 (.lload 5) 2 71 := ⟨at_69, rfl⟩
theorem L_71 : Dc code 71 (.invokevirtual 17) 3 74 := ⟨at_71, rfl⟩
theorem L_74 : Dc code 74 (.iload 10) 2 76 := ⟨at_74, rfl⟩
theorem L_76 : Db code 76 (.ifCond .eq 15) (15) 79 91 := ⟨at_76, rfl, by decide, by decide⟩
theorem L_79 : Dc code 79 (.aload 9) 2 81 := ⟨at_79, rfl⟩
theorem L_81 : Dc code 81 (.invokevirtual 13) 3 84 := ⟨at_81, rfl⟩
theorem L_84 : Db code 84 (.ifCond .ne 7) (7) 87 91 := ⟨at_84, rfl, by decide, by decide⟩
theorem L_87 : Dc code 87 (.iconst 1) 1 88 := ⟨at_87, rfl⟩
theorem L_88 : Db code 88 (.goto 4) (4) 91 92 := ⟨at_88, rfl, by decide, by decide⟩
theorem L_91 : Dc code 91 (.iconst 0) 1 92 := ⟨at_91, rfl⟩
theorem L_92 : Dc code 92 (.istore 10) 2 94 := ⟨at_92, rfl⟩
theorem L_94 : Dc code 94 (.iload 7) 2 96 := ⟨at_94, rfl⟩
theorem L_96 : Dc code 96 (.iload 8) 2 98 := ⟨at_96, rfl⟩
theorem L_98 : Db code 98 (.if_icmp .ne 7) (7) 101 105 := ⟨at_98, rfl, by decide, by decide⟩
theorem L_101 : Dc code 101 (.iconst 1) 1 102 := ⟨at_101, rfl⟩
theorem L_102 : Db code 102 (.goto 4) (4) 105 106 := ⟨at_102, rfl, by decide, by decide⟩
theorem L_105 : Dc code 105 (.iconst 2) 1 106 := ⟨at_105, rfl⟩
theorem L_106 : Dc code 106 (.istore 11) 2 108 := ⟨at_106, rfl⟩
theorem L_108 : Dc code 108 (.aload 9) 2 110 := ⟨at_108, rfl⟩
theorem L_110 : Dc code 110 (.invokevirtual 21) 3 113 := ⟨at_110, rfl⟩
theorem L_113 : Dc code 113 (.pop) 1 114 := ⟨at_113, rfl⟩
theorem L_114 : Dc code 114 (.iload 11) 2 116 := ⟨at_114, rfl⟩
theorem L_116 : Dc code 116 (.iconst 1) 1 117 := ⟨at_116, rfl⟩
theorem L_117 : Dc code 117 (.isub) 1 118 := ⟨at_117, rfl⟩
theorem L_118 : Dc code 118 (.istore 11) 2 120 := ⟨at_118, rfl⟩
theorem L_120 : Dc code 120 (.iload 10) 2 122 := ⟨at_120, rfl⟩
theorem L_122 : Db code 122 (.ifCond .eq 25) (25) 125 147 := ⟨at_122, rfl, by decide, by decide⟩
theorem L_125 : Dc code 125 (.aload 9) 2 127 := ⟨at_125, rfl⟩
theorem L_127 : Dc code 127 (.invokevirtual 13) 3 130 := ⟨at_127, rfl⟩
theorem L_130 : Dc code 130 (.iload 11) 2 132 := ⟨at_130, rfl⟩
theorem L_132 : Db code 132 (.ifCond .ne 7) (7) 135 139 := ⟨at_132, rfl, by decide, by decide⟩
theorem L_135 : Dc code 135 (.iconst 1) 1 136 := ⟨at_135, rfl⟩
theorem L_136 : Db code 136 (.goto 4) (4) 139 140 := ⟨at_136, rfl, by decide, by decide⟩
theorem L_139 : Dc code 139 (.iconst 0) 1 140 := ⟨at_139, rfl⟩
theorem L_140 : Db code 140 (.if_icmp .ne 7) (7) 143 147 := ⟨at_140, rfl, by decide, by decide⟩
theorem L_143 : Dc code 143 (.iconst 1) 1 144 := ⟨at_143, rfl⟩
theorem L_144 : Db code 144 (.goto 4) (4) 147 148 := ⟨at_144, rfl, by decide, by decide⟩
theorem L_147 : Dc code 147 (.iconst 0) 1 148 := ⟨at_147, rfl⟩
theorem L_148 : Dc code 148 (.istore 10) 2 150 := ⟨at_148, rfl⟩
theorem L_150 : Dc code 150 (.iload_n 2) 1 151 := ⟨at_150, rfl⟩
theorem L_151 : Dc code 151 (.iconst 1) 1 152 := ⟨at_151, rfl⟩
theorem L_152 : Dc code 152 (.iand) 1 153 := ⟨at_152, rfl⟩
theorem L_153 : Db code 153 (.ifCond .eq 23) (23) 156 176 := ⟨at_153, rfl, by decide, by decide⟩
theorem L_156 : Dc code 156 (.iload 11) 2 158 := ⟨at_156, rfl⟩
theorem L_158 : Db code 158 (.ifCond .le 26) (26) 161 184 := ⟨at_158, rfl, by decide, by decide⟩
theorem L_161 : Dc code 161 (.aload 9) 2 163 := ⟨at_161, rfl⟩
theorem L_163 : Dc code 163 (.invokevirtual 21) 3 166 := ⟨at_163, rfl⟩
theorem L_166 : Dc code 166 (.pop) 1 167 := ⟨at_166, rfl⟩
theorem L_167 : Dc code 167 (.iload 11) 2 169 := ⟨at_167, rfl⟩
theorem L_169 : Dc code 169 (.iconst 1) 1 170 := ⟨at_169, rfl⟩
theorem L_170 : Dc code 170 (.isub) 1 171 := ⟨at_170, rfl⟩
theorem L_171 : Dc code 171 (.istore 11) 2 173 := ⟨at_171, rfl⟩
theorem L_173 : Db code 173 (.goto 11) (11) 176 184 := ⟨at_173, rfl, by decide, by decide⟩
theorem L_176 : Dc code 176 (.aload 9) 2 178 := ⟨at_176, rfl⟩
theorem L_178 : Dc code 178 (.invokevirtual 25) 3 181 := ⟨at_178, rfl⟩
theorem L_181 : Dc code 181 (.iconst 0) 1 182 := ⟨at_181, rfl⟩
theorem L_182 : Dc code 182 (.istore 11) 2 184 := ⟨at_182, rfl⟩
theorem L_184 : Dc code 184 (.iload 10) 2 186 := ⟨at_184, rfl⟩
theorem L_186 : Db code 186 (.ifCond .eq 25) (25) 189 211 := ⟨at_186, rfl, by decide, by decide⟩
theorem L_189 : Dc code 189 (.aload 9) 2 191 := ⟨at_189, rfl⟩
theorem L_191 : Dc code 191 (.invokevirtual 13) 3 194 := ⟨at_191, rfl⟩
theorem L_194 : Dc code 194 (.iload 11) 2 196 := ⟨at_194, rfl⟩
theorem L_196 : Db code 196 (.ifCond .ne 7) (7) 199 203 := ⟨at_196, rfl, by decide, by decide⟩
theorem L_199 : Dc code 199 (.iconst 1) 1 200 := ⟨at_199, rfl⟩
theorem L_200 : Db code 200 (.goto 4) (4) 203 204 := ⟨at_200, rfl, by decide, by decide⟩
theorem L_203 : Dc code 203 (.iconst 0) 1 204 := ⟨at_203, rfl⟩
theorem L_204 : Db code 204 (.if_icmp .ne 7) (7) 207 211 := ⟨at_204, rfl, by decide, by decide⟩
theorem L_207 : Dc code 207 (.iconst 1) 1 208 := ⟨at_207, rfl⟩
theorem L_208 : Db code 208 (.goto 4) (4) 211 212 := ⟨at_208, rfl, by decide, by decide⟩
theorem L_211 : Dc code 211 (.iconst 0) 1 212 := ⟨at_211, rfl⟩
theorem L_212 : Dc code 212 (.istore 10) 2 214 := ⟨at_212, rfl⟩
theorem L_214 : Dc code 214 (.iload 10) 2 216 := ⟨at_214, rfl⟩
theorem L_216 : Dc code 216 (.ireturn) 1 217 := ⟨at_216, rfl⟩
theorem ef_L (m : MethodId) (i0 : Int32) (i1 : Int32) (i2 : Int32) (i3 : Int64) (i4 : Int64) : entryFrame m #[(.int i0), (.int i1), (.int i2), (.long i3), (.long i4)] maxLocals = mkF m 0 #[.val (.int i0), .val (.int i1), .val (.int i2), .val (.long i3), .second, .val (.long i4), .second, .unset, .unset, .unset, .unset, .unset] [] := by first | (simp [entryFrame, mkF, argsToLocals, Value.category, maxLocals]; done) | rfl
set_option maxRecDepth 65536 in
set_option maxHeartbeats 40000000 in
theorem con_L (l : Launch) (Z : State) (a0 : Array Value) (hw : Tb tables_1 a0 Z) (i0 : Int32) (i1 : Int32) (i2 : Int32) (i3 : Int64) (i4 : Int64) (h0 : Heap) (n0 : Nat) (Z0 : n0 ≤ h0.size)  :
    Con l Z x code maxLocals ret room_1 #[(.int i0), (.int i1), (.int i2), (.long i3), (.long i4)] h0 n0 (fun v _ => v = some (.int 1)) := by
  refine Con.of (plainFor_of_name (by decide +kernel)) Z0 ?_
  intro K hl hZ hn cx T0 X0
  subst hl hZ hn
  refine Run.cast (ef_L K.m i0 i1 i2 i3 i4) ?_
  refine r_iloadN X0 cx L_0 rfl ?_
  refine r_ldc X0 cx L_1 (hw.get 0 rfl) ?_
  refine r_iand X0 cx L_3 ?_
  refine r_iconst (3) X0 cx L_4 rfl ?_
  refine r_irem X0 cx L_5 (by decide) ?_
  refine r_iconst (1) X0 cx L_6 rfl ?_
  refine r_iadd X0 cx L_7 ?_
  refine r_istore (fun zz => #[.val (.int i0), .val (.int i1), .val (.int i2), .val (.long i3), .second, .val (.long i4), .second, .val (.int zz), .unset, .unset, .unset, .unset]) X0 cx L_8 (fun _ => rfl) (fun n1 e_n1 => ?_)
  refine r_iloadN X0 cx L_10 rfl ?_
  refine r_ldc X0 cx L_11 (hw.get 0 rfl) ?_
  refine r_iand X0 cx L_13 ?_
  refine r_iconst (3) X0 cx L_14 rfl ?_
  refine r_irem X0 cx L_15 (by decide) ?_
  refine r_iconst (1) X0 cx L_16 rfl ?_
  refine r_iadd X0 cx L_17 ?_
  refine r_istore (fun zz => #[.val (.int i0), .val (.int i1), .val (.int i2), .val (.long i3), .second, .val (.long i4), .second, .val (.int n1), .val (.int zz), .unset, .unset, .unset]) X0 cx L_18 (fun _ => rfl) (fun n2 e_n2 => ?_)
  obtain ⟨v1, hv11, hv1, q1⟩ := own_p3 i0
  have en1 : n1 = Int32.ofNat v1 := e_n1.trans q1
  obtain ⟨v2, hv21, hv2, q2⟩ := own_p3 i1
  have en2 : n2 = Int32.ofNat v2 := e_n2.trans q2
  clear q1 q2 e_n1 e_n2
  refine r_new X0 cx L_20 (hw.get 1 rfl) (hw.get 2 rfl) (hw.get 3 rfl) (by decide) (by decide) (fun T1 h1 o ea1 g_o X1 Ex1 E_o D1 => ?_)
  have F_nodes_o := D1 (Or.inr (hw.get 12 rfl)) (ty := .array .int) (by decide)
  have F_keys_o := D1 (Or.inr (hw.get 15 rfl)) (ty := .array .long) (by decide)
  have F_positionOf_o := D1 (Or.inr (hw.get 17 rfl)) (ty := .array .int) (by decide)
  have F_size_o := D1 (Or.inl (hw.get 28 rfl)) (ty := .int) (by decide)
  refine r_dup X1 cx L_23 rfl ?_
  refine r_iconst (3) X1 cx L_24 rfl ?_
  refine r_special [(.int (3 : Int32))] [(.ref o)] X1 cx L_25 rfl (hw.get 4 rfl) (hw.get 5 rfl) (hw.get 3 rfl) (hw.get 6 rfl) (by decide) (con_P61m1 K.l K.Z a0 hw o h1 K.n0 X1.ge E_o F_nodes_o F_keys_o F_positionOf_o F_size_o g_o) (lenOf pd_2 rfl) rfl rfl (by decide) (leb rfl) (by decide) (by decide) (fun T2 h2 v2 X2 q2 => ?_) (fun _ _ q => q.1)
  obtain ⟨z2, rfl, an, ak, ap, B⟩ := q2
  refine r_astore #[.val (.int i0), .val (.int i1), .val (.int i2), .val (.long i3), .second, .val (.long i4), .second, .val (.int n1), .val (.int n2), .val (.ref o), .unset, .unset] X2 cx L_28 rfl ?_
  refine r_aload X2 cx L_30 rfl ?_
  refine r_virtual [] [] X2 cx L_32 B.1 (hw.get 22 rfl) (hw.get 23 rfl) (hw.get 25 rfl) (hw.get 24 rfl) (hw.get 3 rfl) (hw.get 26 rfl) (by decide) (con_P61m2_0 K.l K.Z a0 hw o h2 K.n0 X2.ge an ak ap [0, 0, 0] [0, 0, 0] [-1, -1, -1, -1] B) (lenOf pd_3 rfl) rfl rfl (by decide) (leb rfl) (by decide) (by decide) (fun T3 h3 v3 X3 q3 => ?_) (fun _ _ q => Nat.le_of_eq (congrArg Array.size q.1))
  obtain ⟨rfl, rfl⟩ := q3
  refine r_istore (fun zz => #[.val (.int i0), .val (.int i1), .val (.int i2), .val (.long i3), .second, .val (.long i4), .second, .val (.int n1), .val (.int n2), .val (.ref o), .val (.int zz), .unset]) X3 cx L_35 (fun _ => rfl) (fun i4 e_i4 => ?_)
  subst e_i4
  refine r_aload X3 cx L_37 rfl ?_
  refine r_iload X3 cx L_39 rfl ?_
  refine r_lloadN X3 cx L_41 rfl ?_
  refine r_virtual [(.int n1), (.long i3)] [] X3 cx L_42 B.1 (hw.get 29 rfl) (hw.get 30 rfl) (hw.get 32 rfl) (hw.get 31 rfl) (hw.get 3 rfl) (hw.get 33 rfl) (by decide) (con_P61m3_0 K.l K.Z a0 hw o n1 i3 h2 K.n0 X3.ge an ak ap 0 0 0 0 0 0 [-1, -1, -1, -1] rfl B v1 0 en1 rfl hv1 (by decide) (own_no hv1)) (lenOf pd_4 rfl) rfl rfl (by decide) (leb rfl) (by decide) (by decide) (fun T5 h5 v5 X5 q5 => ?_) (fun _ _ q => q.1)
  obtain ⟨z5, rfl, B⟩ := q5
  replace B : NH K.Z K.n0 h5 o an ak ap [n1, 0, 0] [i3, 0, 0] ([-1, -1, -1, -1].set v1 0) 1 := B
  refine r_iload X5 cx L_45 rfl ?_
  refine r_ifeq X5 cx L_47 (fun c => absurd c (by decide)) (fun _ => ?_)
  refine r_aload X5 cx L_50 rfl ?_
  refine r_virtual [] [] X5 cx L_52 B.1 (hw.get 22 rfl) (hw.get 23 rfl) (hw.get 25 rfl) (hw.get 24 rfl) (hw.get 3 rfl) (hw.get 26 rfl) (by decide) (con_P61m2_1 K.l K.Z a0 hw o h5 K.n0 X5.ge an ak ap [n1, 0, 0] [i3, 0, 0] ([-1, -1, -1, -1].set v1 0) B) (lenOf pd_3 rfl) rfl rfl (by decide) (leb rfl) (by decide) (by decide) (fun T6 h6 v6 X6 q6 => ?_) (fun _ _ q => Nat.le_of_eq (congrArg Array.size q.1))
  obtain ⟨rfl, rfl⟩ := q6
  refine r_ifne X6 cx L_55 (fun c => absurd c (by decide)) (fun _ => ?_)
  refine r_iconst (1) X6 cx L_58 rfl ?_
  refine r_goto X6 cx L_59 ?_
  refine r_istore (fun zz => #[.val (.int i0), .val (.int i1), .val (.int i2), .val (.long i3), .second, .val (.long i4), .second, .val (.int n1), .val (.int n2), .val (.ref o), .val (.int zz), .unset]) X6 cx L_63 (fun _ => rfl) (fun i7 e_i7 => ?_)
  subst e_i7
  by_cases hv : v1 = v2
  · have heq := hv
    refine r_aload X6 cx L_65 rfl ?_
    refine r_iload X6 cx L_67 rfl ?_
    refine r_lload X6 cx L_69 rfl ?_
    refine r_virtual [(.int n2), (.long i4)] [] X6 cx L_71 B.1 (hw.get 29 rfl) (hw.get 30 rfl) (hw.get 32 rfl) (hw.get 31 rfl) (hw.get 3 rfl) (hw.get 33 rfl) (by decide) (con_P61m3_d K.l K.Z a0 hw o n2 i4 h5 K.n0 X6.ge an ak ap n1 0 0 i3 0 0 ([-1, -1, -1, -1].set v1 0) (by first | rfl | (simp only [List.length_set]; rfl)) B v2 v1 en2 en1 hv2 hv1 (by rw [hv]; exact List.getElem?_set_self (show v2 < 4 from hv2))) (lenOf pd_4 rfl) rfl rfl (by decide) (leb rfl) (by decide) (by decide) (fun T8 h8 v8 X8 q8 => ?_) (fun _ _ q => q.1)
    obtain ⟨z8, rfl, B⟩ := q8
    rcases B with B | B
    · replace B : NH K.Z K.n0 h8 o an ak ap [n1, 0, 0] [i3, 0, 0] ([-1, -1, -1, -1].set v1 0) 1 := B
      refine r_iload X8 cx L_74 rfl ?_
      refine r_ifeq X8 cx L_76 (fun c => absurd c (by decide)) (fun _ => ?_)
      refine r_aload X8 cx L_79 rfl ?_
      refine r_virtual [] [] X8 cx L_81 B.1 (hw.get 22 rfl) (hw.get 23 rfl) (hw.get 25 rfl) (hw.get 24 rfl) (hw.get 3 rfl) (hw.get 26 rfl) (by decide) (con_P61m2_1 K.l K.Z a0 hw o h8 K.n0 X8.ge an ak ap [n1, 0, 0] [i3, 0, 0] ([-1, -1, -1, -1].set v1 0) B) (lenOf pd_3 rfl) rfl rfl (by decide) (leb rfl) (by decide) (by decide) (fun T9 h9 v9 X9 q9 => ?_) (fun _ _ q => Nat.le_of_eq (congrArg Array.size q.1))
      obtain ⟨rfl, rfl⟩ := q9
      refine r_ifne X9 cx L_84 (fun c => absurd c (by decide)) (fun _ => ?_)
      refine r_iconst (1) X9 cx L_87 rfl ?_
      refine r_goto X9 cx L_88 ?_
      refine r_istore (fun zz => #[.val (.int i0), .val (.int i1), .val (.int i2), .val (.long i3), .second, .val (.long i4), .second, .val (.int n1), .val (.int n2), .val (.ref o), .val (.int zz), .unset]) X9 cx L_92 (fun _ => rfl) (fun i10 e_i10 => ?_)
      subst e_i10
      refine r_iload X9 cx L_94 rfl ?_
      refine r_iload X9 cx L_96 rfl ?_
      refine r_icmpne X9 cx L_98 (fun c98 => ?_) (fun c98 => ?_)
      · exact absurd (by rw [en1, en2, hv]) c98
      · refine r_iconst (1) X9 cx L_101 rfl ?_
        refine r_goto X9 cx L_102 ?_
        refine r_istore (fun zz => #[.val (.int i0), .val (.int i1), .val (.int i2), .val (.long i3), .second, .val (.long i4), .second, .val (.int n1), .val (.int n2), .val (.ref o), .val (.int (1 : Int32)), .val (.int zz)]) X9 cx L_106 (fun _ => rfl) (fun i11 e_i11 => ?_)
        subst e_i11
        refine r_aload X9 cx L_108 rfl ?_
        refine r_virtual [] [] X9 cx L_110 B.1 (hw.get 42 rfl) (hw.get 43 rfl) (hw.get 45 rfl) (hw.get 44 rfl) (hw.get 3 rfl) (hw.get 46 rfl) (by decide) (con_P61m4_1 K.l K.Z a0 hw o h8 K.n0 X9.ge an ak ap n1 0 0 i3 0 0 ([-1, -1, -1, -1].set v1 0) (by first | rfl | (simp only [List.length_set]; rfl)) B v1 en1 hv1) (lenOf pd_5 rfl) rfl rfl (by decide) (leb rfl) (by decide) (by decide) (fun T12 h12 v12 X12 q12 => ?_) (fun _ _ q => q.1)
        obtain ⟨z12, rfl, B⟩ := q12
        replace B : NH K.Z K.n0 h12 o an ak ap [n1, 0, 0] [i3, 0, 0] (([-1, -1, -1, -1].set v1 0).set v1 (-1)) 0 := B
        refine r_pop X12 cx L_113 rfl ?_
        refine r_iload X12 cx L_114 rfl ?_
        refine r_iconst (1) X12 cx L_116 rfl ?_
        refine r_isub X12 cx L_117 ?_
        refine r_top (v' := 0) (by decide) ?_
        refine r_istore (fun zz => #[.val (.int i0), .val (.int i1), .val (.int i2), .val (.long i3), .second, .val (.long i4), .second, .val (.int n1), .val (.int n2), .val (.ref o), .val (.int (1 : Int32)), .val (.int zz)]) X12 cx L_118 (fun _ => rfl) (fun i13 e_i13 => ?_)
        subst e_i13
        refine r_iload X12 cx L_120 rfl ?_
        refine r_ifeq X12 cx L_122 (fun c => absurd c (by decide)) (fun _ => ?_)
        refine r_aload X12 cx L_125 rfl ?_
        refine r_virtual [] [] X12 cx L_127 B.1 (hw.get 22 rfl) (hw.get 23 rfl) (hw.get 25 rfl) (hw.get 24 rfl) (hw.get 3 rfl) (hw.get 26 rfl) (by decide) (con_P61m2_0 K.l K.Z a0 hw o h12 K.n0 X12.ge an ak ap [n1, 0, 0] [i3, 0, 0] (([-1, -1, -1, -1].set v1 0).set v1 (-1)) B) (lenOf pd_3 rfl) rfl rfl (by decide) (leb rfl) (by decide) (by decide) (fun T14 h14 v14 X14 q14 => ?_) (fun _ _ q => Nat.le_of_eq (congrArg Array.size q.1))
        obtain ⟨rfl, rfl⟩ := q14
        refine r_iload X14 cx L_130 rfl ?_
        refine r_ifne X14 cx L_132 (fun c => absurd c (by decide)) (fun _ => ?_)
        refine r_iconst (1) X14 cx L_135 rfl ?_
        refine r_goto X14 cx L_136 ?_
        refine r_icmpne X14 cx L_140 (fun c => absurd c (by decide)) (fun _ => ?_)
        refine r_iconst (1) X14 cx L_143 rfl ?_
        refine r_goto X14 cx L_144 ?_
        refine r_istore (fun zz => #[.val (.int i0), .val (.int i1), .val (.int i2), .val (.long i3), .second, .val (.long i4), .second, .val (.int n1), .val (.int n2), .val (.ref o), .val (.int zz), .val (.int (0 : Int32))]) X14 cx L_148 (fun _ => rfl) (fun i15 e_i15 => ?_)
        subst e_i15
        refine r_iloadN X14 cx L_150 rfl ?_
        refine r_iconst (1) X14 cx L_151 rfl ?_
        refine r_iand X14 cx L_152 ?_
        refine r_ifeq X14 cx L_153 (fun c153 => ?_) (fun c153 => ?_)
        · refine r_aload X14 cx L_176 rfl ?_
          refine r_virtual [] [] X14 cx L_178 B.1 (hw.get 47 rfl) (hw.get 48 rfl) (hw.get 50 rfl) (hw.get 49 rfl) (hw.get 3 rfl) (hw.get 51 rfl) (by decide) (con_P61m5_0 K.l K.Z a0 hw o h12 K.n0 X14.ge an ak ap n1 0 0 i3 0 0 (([-1, -1, -1, -1].set v1 0).set v1 (-1)) (by first | rfl | (simp only [List.length_set]; rfl)) B v1 0 0 en1 rfl rfl hv1 (by decide) (by decide)) (lenOf pd_6 rfl) rfl rfl (by decide) (leb rfl) (by decide) (by decide) (fun T16 h16 v16 X16 q16 => ?_) (fun _ _ q => q.1)
          obtain ⟨z16, rfl, B⟩ := q16
          replace B : NH K.Z K.n0 h16 o an ak ap [n1, 0, 0] [i3, 0, 0] (([-1, -1, -1, -1].set v1 0).set v1 (-1)) 0 := B
          refine r_iconst (0) X16 cx L_181 rfl ?_
          refine r_istore (fun zz => #[.val (.int i0), .val (.int i1), .val (.int i2), .val (.long i3), .second, .val (.long i4), .second, .val (.int n1), .val (.int n2), .val (.ref o), .val (.int (1 : Int32)), .val (.int zz)]) X16 cx L_182 (fun _ => rfl) (fun i17 e_i17 => ?_)
          subst e_i17
          refine r_iload X16 cx L_184 rfl ?_
          refine r_ifeq X16 cx L_186 (fun c => absurd c (by decide)) (fun _ => ?_)
          refine r_aload X16 cx L_189 rfl ?_
          refine r_virtual [] [] X16 cx L_191 B.1 (hw.get 22 rfl) (hw.get 23 rfl) (hw.get 25 rfl) (hw.get 24 rfl) (hw.get 3 rfl) (hw.get 26 rfl) (by decide) (con_P61m2_0 K.l K.Z a0 hw o h16 K.n0 X16.ge an ak ap [n1, 0, 0] [i3, 0, 0] (([-1, -1, -1, -1].set v1 0).set v1 (-1)) B) (lenOf pd_3 rfl) rfl rfl (by decide) (leb rfl) (by decide) (by decide) (fun T18 h18 v18 X18 q18 => ?_) (fun _ _ q => Nat.le_of_eq (congrArg Array.size q.1))
          obtain ⟨rfl, rfl⟩ := q18
          refine r_iload X18 cx L_194 rfl ?_
          refine r_ifne X18 cx L_196 (fun c => absurd c (by decide)) (fun _ => ?_)
          refine r_iconst (1) X18 cx L_199 rfl ?_
          refine r_goto X18 cx L_200 ?_
          refine r_icmpne X18 cx L_204 (fun c => absurd c (by decide)) (fun _ => ?_)
          refine r_iconst (1) X18 cx L_207 rfl ?_
          refine r_goto X18 cx L_208 ?_
          refine r_istore (fun zz => #[.val (.int i0), .val (.int i1), .val (.int i2), .val (.long i3), .second, .val (.long i4), .second, .val (.int n1), .val (.int n2), .val (.ref o), .val (.int zz), .val (.int (0 : Int32))]) X18 cx L_212 (fun _ => rfl) (fun i19 e_i19 => ?_)
          subst e_i19
          refine r_iload X18 cx L_214 rfl ?_
          refine r_zreturn X18 cx L_216 (by decide) (by decide) ?_
          rfl
        · refine r_iload X14 cx L_156 rfl ?_
          refine r_ifle X14 cx L_158 (fun _ => ?_) (fun c => absurd c (by decide))
          refine r_iload X14 cx L_184 rfl ?_
          refine r_ifeq X14 cx L_186 (fun c => absurd c (by decide)) (fun _ => ?_)
          refine r_aload X14 cx L_189 rfl ?_
          refine r_virtual [] [] X14 cx L_191 B.1 (hw.get 22 rfl) (hw.get 23 rfl) (hw.get 25 rfl) (hw.get 24 rfl) (hw.get 3 rfl) (hw.get 26 rfl) (by decide) (con_P61m2_0 K.l K.Z a0 hw o h12 K.n0 X14.ge an ak ap [n1, 0, 0] [i3, 0, 0] (([-1, -1, -1, -1].set v1 0).set v1 (-1)) B) (lenOf pd_3 rfl) rfl rfl (by decide) (leb rfl) (by decide) (by decide) (fun T16 h16 v16 X16 q16 => ?_) (fun _ _ q => Nat.le_of_eq (congrArg Array.size q.1))
          obtain ⟨rfl, rfl⟩ := q16
          refine r_iload X16 cx L_194 rfl ?_
          refine r_ifne X16 cx L_196 (fun c => absurd c (by decide)) (fun _ => ?_)
          refine r_iconst (1) X16 cx L_199 rfl ?_
          refine r_goto X16 cx L_200 ?_
          refine r_icmpne X16 cx L_204 (fun c => absurd c (by decide)) (fun _ => ?_)
          refine r_iconst (1) X16 cx L_207 rfl ?_
          refine r_goto X16 cx L_208 ?_
          refine r_istore (fun zz => #[.val (.int i0), .val (.int i1), .val (.int i2), .val (.long i3), .second, .val (.long i4), .second, .val (.int n1), .val (.int n2), .val (.ref o), .val (.int zz), .val (.int (0 : Int32))]) X16 cx L_212 (fun _ => rfl) (fun i17 e_i17 => ?_)
          subst e_i17
          refine r_iload X16 cx L_214 rfl ?_
          refine r_zreturn X16 cx L_216 (by decide) (by decide) ?_
          rfl
    · replace B : NH K.Z K.n0 h8 o an ak ap [n2, 0, 0] [i4, 0, 0] (([-1, -1, -1, -1].set v1 0).set v2 0) 1 := B
      refine r_iload X8 cx L_74 rfl ?_
      refine r_ifeq X8 cx L_76 (fun c => absurd c (by decide)) (fun _ => ?_)
      refine r_aload X8 cx L_79 rfl ?_
      refine r_virtual [] [] X8 cx L_81 B.1 (hw.get 22 rfl) (hw.get 23 rfl) (hw.get 25 rfl) (hw.get 24 rfl) (hw.get 3 rfl) (hw.get 26 rfl) (by decide) (con_P61m2_1 K.l K.Z a0 hw o h8 K.n0 X8.ge an ak ap [n2, 0, 0] [i4, 0, 0] (([-1, -1, -1, -1].set v1 0).set v2 0) B) (lenOf pd_3 rfl) rfl rfl (by decide) (leb rfl) (by decide) (by decide) (fun T9 h9 v9 X9 q9 => ?_) (fun _ _ q => Nat.le_of_eq (congrArg Array.size q.1))
      obtain ⟨rfl, rfl⟩ := q9
      refine r_ifne X9 cx L_84 (fun c => absurd c (by decide)) (fun _ => ?_)
      refine r_iconst (1) X9 cx L_87 rfl ?_
      refine r_goto X9 cx L_88 ?_
      refine r_istore (fun zz => #[.val (.int i0), .val (.int i1), .val (.int i2), .val (.long i3), .second, .val (.long i4), .second, .val (.int n1), .val (.int n2), .val (.ref o), .val (.int zz), .unset]) X9 cx L_92 (fun _ => rfl) (fun i10 e_i10 => ?_)
      subst e_i10
      refine r_iload X9 cx L_94 rfl ?_
      refine r_iload X9 cx L_96 rfl ?_
      refine r_icmpne X9 cx L_98 (fun c98 => ?_) (fun c98 => ?_)
      · exact absurd (by rw [en1, en2, hv]) c98
      · refine r_iconst (1) X9 cx L_101 rfl ?_
        refine r_goto X9 cx L_102 ?_
        refine r_istore (fun zz => #[.val (.int i0), .val (.int i1), .val (.int i2), .val (.long i3), .second, .val (.long i4), .second, .val (.int n1), .val (.int n2), .val (.ref o), .val (.int (1 : Int32)), .val (.int zz)]) X9 cx L_106 (fun _ => rfl) (fun i11 e_i11 => ?_)
        subst e_i11
        refine r_aload X9 cx L_108 rfl ?_
        refine r_virtual [] [] X9 cx L_110 B.1 (hw.get 42 rfl) (hw.get 43 rfl) (hw.get 45 rfl) (hw.get 44 rfl) (hw.get 3 rfl) (hw.get 46 rfl) (by decide) (con_P61m4_1 K.l K.Z a0 hw o h8 K.n0 X9.ge an ak ap n2 0 0 i4 0 0 (([-1, -1, -1, -1].set v1 0).set v2 0) (by first | rfl | (simp only [List.length_set]; rfl)) B v2 en2 hv2) (lenOf pd_5 rfl) rfl rfl (by decide) (leb rfl) (by decide) (by decide) (fun T12 h12 v12 X12 q12 => ?_) (fun _ _ q => q.1)
        obtain ⟨z12, rfl, B⟩ := q12
        replace B : NH K.Z K.n0 h12 o an ak ap [n2, 0, 0] [i4, 0, 0] ((([-1, -1, -1, -1].set v1 0).set v2 0).set v2 (-1)) 0 := B
        refine r_pop X12 cx L_113 rfl ?_
        refine r_iload X12 cx L_114 rfl ?_
        refine r_iconst (1) X12 cx L_116 rfl ?_
        refine r_isub X12 cx L_117 ?_
        refine r_top (v' := 0) (by decide) ?_
        refine r_istore (fun zz => #[.val (.int i0), .val (.int i1), .val (.int i2), .val (.long i3), .second, .val (.long i4), .second, .val (.int n1), .val (.int n2), .val (.ref o), .val (.int (1 : Int32)), .val (.int zz)]) X12 cx L_118 (fun _ => rfl) (fun i13 e_i13 => ?_)
        subst e_i13
        refine r_iload X12 cx L_120 rfl ?_
        refine r_ifeq X12 cx L_122 (fun c => absurd c (by decide)) (fun _ => ?_)
        refine r_aload X12 cx L_125 rfl ?_
        refine r_virtual [] [] X12 cx L_127 B.1 (hw.get 22 rfl) (hw.get 23 rfl) (hw.get 25 rfl) (hw.get 24 rfl) (hw.get 3 rfl) (hw.get 26 rfl) (by decide) (con_P61m2_0 K.l K.Z a0 hw o h12 K.n0 X12.ge an ak ap [n2, 0, 0] [i4, 0, 0] ((([-1, -1, -1, -1].set v1 0).set v2 0).set v2 (-1)) B) (lenOf pd_3 rfl) rfl rfl (by decide) (leb rfl) (by decide) (by decide) (fun T14 h14 v14 X14 q14 => ?_) (fun _ _ q => Nat.le_of_eq (congrArg Array.size q.1))
        obtain ⟨rfl, rfl⟩ := q14
        refine r_iload X14 cx L_130 rfl ?_
        refine r_ifne X14 cx L_132 (fun c => absurd c (by decide)) (fun _ => ?_)
        refine r_iconst (1) X14 cx L_135 rfl ?_
        refine r_goto X14 cx L_136 ?_
        refine r_icmpne X14 cx L_140 (fun c => absurd c (by decide)) (fun _ => ?_)
        refine r_iconst (1) X14 cx L_143 rfl ?_
        refine r_goto X14 cx L_144 ?_
        refine r_istore (fun zz => #[.val (.int i0), .val (.int i1), .val (.int i2), .val (.long i3), .second, .val (.long i4), .second, .val (.int n1), .val (.int n2), .val (.ref o), .val (.int zz), .val (.int (0 : Int32))]) X14 cx L_148 (fun _ => rfl) (fun i15 e_i15 => ?_)
        subst e_i15
        refine r_iloadN X14 cx L_150 rfl ?_
        refine r_iconst (1) X14 cx L_151 rfl ?_
        refine r_iand X14 cx L_152 ?_
        refine r_ifeq X14 cx L_153 (fun c153 => ?_) (fun c153 => ?_)
        · refine r_aload X14 cx L_176 rfl ?_
          refine r_virtual [] [] X14 cx L_178 B.1 (hw.get 47 rfl) (hw.get 48 rfl) (hw.get 50 rfl) (hw.get 49 rfl) (hw.get 3 rfl) (hw.get 51 rfl) (by decide) (con_P61m5_0 K.l K.Z a0 hw o h12 K.n0 X14.ge an ak ap n2 0 0 i4 0 0 ((([-1, -1, -1, -1].set v1 0).set v2 0).set v2 (-1)) (by first | rfl | (simp only [List.length_set]; rfl)) B v2 0 0 en2 rfl rfl hv2 (by decide) (by decide)) (lenOf pd_6 rfl) rfl rfl (by decide) (leb rfl) (by decide) (by decide) (fun T16 h16 v16 X16 q16 => ?_) (fun _ _ q => q.1)
          obtain ⟨z16, rfl, B⟩ := q16
          replace B : NH K.Z K.n0 h16 o an ak ap [n2, 0, 0] [i4, 0, 0] ((([-1, -1, -1, -1].set v1 0).set v2 0).set v2 (-1)) 0 := B
          refine r_iconst (0) X16 cx L_181 rfl ?_
          refine r_istore (fun zz => #[.val (.int i0), .val (.int i1), .val (.int i2), .val (.long i3), .second, .val (.long i4), .second, .val (.int n1), .val (.int n2), .val (.ref o), .val (.int (1 : Int32)), .val (.int zz)]) X16 cx L_182 (fun _ => rfl) (fun i17 e_i17 => ?_)
          subst e_i17
          refine r_iload X16 cx L_184 rfl ?_
          refine r_ifeq X16 cx L_186 (fun c => absurd c (by decide)) (fun _ => ?_)
          refine r_aload X16 cx L_189 rfl ?_
          refine r_virtual [] [] X16 cx L_191 B.1 (hw.get 22 rfl) (hw.get 23 rfl) (hw.get 25 rfl) (hw.get 24 rfl) (hw.get 3 rfl) (hw.get 26 rfl) (by decide) (con_P61m2_0 K.l K.Z a0 hw o h16 K.n0 X16.ge an ak ap [n2, 0, 0] [i4, 0, 0] ((([-1, -1, -1, -1].set v1 0).set v2 0).set v2 (-1)) B) (lenOf pd_3 rfl) rfl rfl (by decide) (leb rfl) (by decide) (by decide) (fun T18 h18 v18 X18 q18 => ?_) (fun _ _ q => Nat.le_of_eq (congrArg Array.size q.1))
          obtain ⟨rfl, rfl⟩ := q18
          refine r_iload X18 cx L_194 rfl ?_
          refine r_ifne X18 cx L_196 (fun c => absurd c (by decide)) (fun _ => ?_)
          refine r_iconst (1) X18 cx L_199 rfl ?_
          refine r_goto X18 cx L_200 ?_
          refine r_icmpne X18 cx L_204 (fun c => absurd c (by decide)) (fun _ => ?_)
          refine r_iconst (1) X18 cx L_207 rfl ?_
          refine r_goto X18 cx L_208 ?_
          refine r_istore (fun zz => #[.val (.int i0), .val (.int i1), .val (.int i2), .val (.long i3), .second, .val (.long i4), .second, .val (.int n1), .val (.int n2), .val (.ref o), .val (.int zz), .val (.int (0 : Int32))]) X18 cx L_212 (fun _ => rfl) (fun i19 e_i19 => ?_)
          subst e_i19
          refine r_iload X18 cx L_214 rfl ?_
          refine r_zreturn X18 cx L_216 (by decide) (by decide) ?_
          rfl
        · refine r_iload X14 cx L_156 rfl ?_
          refine r_ifle X14 cx L_158 (fun _ => ?_) (fun c => absurd c (by decide))
          refine r_iload X14 cx L_184 rfl ?_
          refine r_ifeq X14 cx L_186 (fun c => absurd c (by decide)) (fun _ => ?_)
          refine r_aload X14 cx L_189 rfl ?_
          refine r_virtual [] [] X14 cx L_191 B.1 (hw.get 22 rfl) (hw.get 23 rfl) (hw.get 25 rfl) (hw.get 24 rfl) (hw.get 3 rfl) (hw.get 26 rfl) (by decide) (con_P61m2_0 K.l K.Z a0 hw o h12 K.n0 X14.ge an ak ap [n2, 0, 0] [i4, 0, 0] ((([-1, -1, -1, -1].set v1 0).set v2 0).set v2 (-1)) B) (lenOf pd_3 rfl) rfl rfl (by decide) (leb rfl) (by decide) (by decide) (fun T16 h16 v16 X16 q16 => ?_) (fun _ _ q => Nat.le_of_eq (congrArg Array.size q.1))
          obtain ⟨rfl, rfl⟩ := q16
          refine r_iload X16 cx L_194 rfl ?_
          refine r_ifne X16 cx L_196 (fun c => absurd c (by decide)) (fun _ => ?_)
          refine r_iconst (1) X16 cx L_199 rfl ?_
          refine r_goto X16 cx L_200 ?_
          refine r_icmpne X16 cx L_204 (fun c => absurd c (by decide)) (fun _ => ?_)
          refine r_iconst (1) X16 cx L_207 rfl ?_
          refine r_goto X16 cx L_208 ?_
          refine r_istore (fun zz => #[.val (.int i0), .val (.int i1), .val (.int i2), .val (.long i3), .second, .val (.long i4), .second, .val (.int n1), .val (.int n2), .val (.ref o), .val (.int zz), .val (.int (0 : Int32))]) X16 cx L_212 (fun _ => rfl) (fun i17 e_i17 => ?_)
          subst e_i17
          refine r_iload X16 cx L_214 rfl ?_
          refine r_zreturn X16 cx L_216 (by decide) (by decide) ?_
          rfl
  · have hne := hv
    refine r_aload X6 cx L_65 rfl ?_
    refine r_iload X6 cx L_67 rfl ?_
    refine r_lload X6 cx L_69 rfl ?_
    refine r_virtual [(.int n2), (.long i4)] [] X6 cx L_71 B.1 (hw.get 29 rfl) (hw.get 30 rfl) (hw.get 32 rfl) (hw.get 31 rfl) (hw.get 3 rfl) (hw.get 33 rfl) (by decide) (con_P61m3_1 K.l K.Z a0 hw o n2 i4 h5 K.n0 X6.ge an ak ap n1 0 0 i3 0 0 ([-1, -1, -1, -1].set v1 0) (by first | rfl | (simp only [List.length_set]; rfl)) B v2 v1 en2 en1 hv2 hv1 (by rw [List.getElem?_set_ne hv]; exact own_no hv2)) (lenOf pd_4 rfl) rfl rfl (by decide) (leb rfl) (by decide) (by decide) (fun T8 h8 v8 X8 q8 => ?_) (fun _ _ q => q.1)
    obtain ⟨z8, rfl, B⟩ := q8
    rcases B with ⟨cB, B⟩ | ⟨cB, B⟩
    · replace B : NH K.Z K.n0 h8 o an ak ap [n2, n1, 0] [i4, i3, 0] ((([-1, -1, -1, -1].set v1 0).set v1 1).set v2 0) 2 := B
      refine r_iload X8 cx L_74 rfl ?_
      refine r_ifeq X8 cx L_76 (fun c => absurd c (by decide)) (fun _ => ?_)
      refine r_aload X8 cx L_79 rfl ?_
      refine r_virtual [] [] X8 cx L_81 B.1 (hw.get 22 rfl) (hw.get 23 rfl) (hw.get 25 rfl) (hw.get 24 rfl) (hw.get 3 rfl) (hw.get 26 rfl) (by decide) (con_P61m2_2 K.l K.Z a0 hw o h8 K.n0 X8.ge an ak ap [n2, n1, 0] [i4, i3, 0] ((([-1, -1, -1, -1].set v1 0).set v1 1).set v2 0) B) (lenOf pd_3 rfl) rfl rfl (by decide) (leb rfl) (by decide) (by decide) (fun T9 h9 v9 X9 q9 => ?_) (fun _ _ q => Nat.le_of_eq (congrArg Array.size q.1))
      obtain ⟨rfl, rfl⟩ := q9
      refine r_ifne X9 cx L_84 (fun c => absurd c (by decide)) (fun _ => ?_)
      refine r_iconst (1) X9 cx L_87 rfl ?_
      refine r_goto X9 cx L_88 ?_
      refine r_istore (fun zz => #[.val (.int i0), .val (.int i1), .val (.int i2), .val (.long i3), .second, .val (.long i4), .second, .val (.int n1), .val (.int n2), .val (.ref o), .val (.int zz), .unset]) X9 cx L_92 (fun _ => rfl) (fun i10 e_i10 => ?_)
      subst e_i10
      refine r_iload X9 cx L_94 rfl ?_
      refine r_iload X9 cx L_96 rfl ?_
      refine r_icmpne X9 cx L_98 (fun c98 => ?_) (fun c98 => ?_)
      · refine r_iconst (2) X9 cx L_105 rfl ?_
        refine r_istore (fun zz => #[.val (.int i0), .val (.int i1), .val (.int i2), .val (.long i3), .second, .val (.long i4), .second, .val (.int n1), .val (.int n2), .val (.ref o), .val (.int (1 : Int32)), .val (.int zz)]) X9 cx L_106 (fun _ => rfl) (fun i11 e_i11 => ?_)
        subst e_i11
        refine r_aload X9 cx L_108 rfl ?_
        refine r_virtual [] [] X9 cx L_110 B.1 (hw.get 42 rfl) (hw.get 43 rfl) (hw.get 45 rfl) (hw.get 44 rfl) (hw.get 3 rfl) (hw.get 46 rfl) (by decide) (con_P61m4_2 K.l K.Z a0 hw o h8 K.n0 X9.ge an ak ap n2 n1 0 i4 i3 0 ((([-1, -1, -1, -1].set v1 0).set v1 1).set v2 0) (by first | rfl | (simp only [List.length_set]; rfl)) B v2 v1 en2 en1 hv2 hv1) (lenOf pd_5 rfl) rfl rfl (by decide) (leb rfl) (by decide) (by decide) (fun T12 h12 v12 X12 q12 => ?_) (fun _ _ q => q.1)
        obtain ⟨z12, rfl, B⟩ := q12
        replace B : NH K.Z K.n0 h12 o an ak ap [n1, n1, 0] [i3, i3, 0] ((((([-1, -1, -1, -1].set v1 0).set v1 1).set v2 0).set v2 (-1)).set v1 0) 1 := B
        refine r_pop X12 cx L_113 rfl ?_
        refine r_iload X12 cx L_114 rfl ?_
        refine r_iconst (1) X12 cx L_116 rfl ?_
        refine r_isub X12 cx L_117 ?_
        refine r_top (v' := 1) (by decide) ?_
        refine r_istore (fun zz => #[.val (.int i0), .val (.int i1), .val (.int i2), .val (.long i3), .second, .val (.long i4), .second, .val (.int n1), .val (.int n2), .val (.ref o), .val (.int (1 : Int32)), .val (.int zz)]) X12 cx L_118 (fun _ => rfl) (fun i13 e_i13 => ?_)
        subst e_i13
        refine r_iload X12 cx L_120 rfl ?_
        refine r_ifeq X12 cx L_122 (fun c => absurd c (by decide)) (fun _ => ?_)
        refine r_aload X12 cx L_125 rfl ?_
        refine r_virtual [] [] X12 cx L_127 B.1 (hw.get 22 rfl) (hw.get 23 rfl) (hw.get 25 rfl) (hw.get 24 rfl) (hw.get 3 rfl) (hw.get 26 rfl) (by decide) (con_P61m2_1 K.l K.Z a0 hw o h12 K.n0 X12.ge an ak ap [n1, n1, 0] [i3, i3, 0] ((((([-1, -1, -1, -1].set v1 0).set v1 1).set v2 0).set v2 (-1)).set v1 0) B) (lenOf pd_3 rfl) rfl rfl (by decide) (leb rfl) (by decide) (by decide) (fun T14 h14 v14 X14 q14 => ?_) (fun _ _ q => Nat.le_of_eq (congrArg Array.size q.1))
        obtain ⟨rfl, rfl⟩ := q14
        refine r_iload X14 cx L_130 rfl ?_
        refine r_ifne X14 cx L_132 (fun _ => ?_) (fun c => absurd c (by decide))
        refine r_iconst (0) X14 cx L_139 rfl ?_
        refine r_icmpne X14 cx L_140 (fun c => absurd c (by decide)) (fun _ => ?_)
        refine r_iconst (1) X14 cx L_143 rfl ?_
        refine r_goto X14 cx L_144 ?_
        refine r_istore (fun zz => #[.val (.int i0), .val (.int i1), .val (.int i2), .val (.long i3), .second, .val (.long i4), .second, .val (.int n1), .val (.int n2), .val (.ref o), .val (.int zz), .val (.int (1 : Int32))]) X14 cx L_148 (fun _ => rfl) (fun i15 e_i15 => ?_)
        subst e_i15
        refine r_iloadN X14 cx L_150 rfl ?_
        refine r_iconst (1) X14 cx L_151 rfl ?_
        refine r_iand X14 cx L_152 ?_
        refine r_ifeq X14 cx L_153 (fun c153 => ?_) (fun c153 => ?_)
        · refine r_aload X14 cx L_176 rfl ?_
          refine r_virtual [] [] X14 cx L_178 B.1 (hw.get 47 rfl) (hw.get 48 rfl) (hw.get 50 rfl) (hw.get 49 rfl) (hw.get 3 rfl) (hw.get 51 rfl) (by decide) (con_P61m5_1 K.l K.Z a0 hw o h12 K.n0 X14.ge an ak ap n1 n1 0 i3 i3 0 ((((([-1, -1, -1, -1].set v1 0).set v1 1).set v2 0).set v2 (-1)).set v1 0) (by first | rfl | (simp only [List.length_set]; rfl)) B v1 v1 0 en1 en1 rfl hv1 hv1 (by decide)) (lenOf pd_6 rfl) rfl rfl (by decide) (leb rfl) (by decide) (by decide) (fun T16 h16 v16 X16 q16 => ?_) (fun _ _ q => q.1)
          obtain ⟨z16, rfl, B⟩ := q16
          replace B : NH K.Z K.n0 h16 o an ak ap [n1, n1, 0] [i3, i3, 0] (((((([-1, -1, -1, -1].set v1 0).set v1 1).set v2 0).set v2 (-1)).set v1 0).set v1 (-1)) 0 := B
          refine r_iconst (0) X16 cx L_181 rfl ?_
          refine r_istore (fun zz => #[.val (.int i0), .val (.int i1), .val (.int i2), .val (.long i3), .second, .val (.long i4), .second, .val (.int n1), .val (.int n2), .val (.ref o), .val (.int (1 : Int32)), .val (.int zz)]) X16 cx L_182 (fun _ => rfl) (fun i17 e_i17 => ?_)
          subst e_i17
          refine r_iload X16 cx L_184 rfl ?_
          refine r_ifeq X16 cx L_186 (fun c => absurd c (by decide)) (fun _ => ?_)
          refine r_aload X16 cx L_189 rfl ?_
          refine r_virtual [] [] X16 cx L_191 B.1 (hw.get 22 rfl) (hw.get 23 rfl) (hw.get 25 rfl) (hw.get 24 rfl) (hw.get 3 rfl) (hw.get 26 rfl) (by decide) (con_P61m2_0 K.l K.Z a0 hw o h16 K.n0 X16.ge an ak ap [n1, n1, 0] [i3, i3, 0] (((((([-1, -1, -1, -1].set v1 0).set v1 1).set v2 0).set v2 (-1)).set v1 0).set v1 (-1)) B) (lenOf pd_3 rfl) rfl rfl (by decide) (leb rfl) (by decide) (by decide) (fun T18 h18 v18 X18 q18 => ?_) (fun _ _ q => Nat.le_of_eq (congrArg Array.size q.1))
          obtain ⟨rfl, rfl⟩ := q18
          refine r_iload X18 cx L_194 rfl ?_
          refine r_ifne X18 cx L_196 (fun c => absurd c (by decide)) (fun _ => ?_)
          refine r_iconst (1) X18 cx L_199 rfl ?_
          refine r_goto X18 cx L_200 ?_
          refine r_icmpne X18 cx L_204 (fun c => absurd c (by decide)) (fun _ => ?_)
          refine r_iconst (1) X18 cx L_207 rfl ?_
          refine r_goto X18 cx L_208 ?_
          refine r_istore (fun zz => #[.val (.int i0), .val (.int i1), .val (.int i2), .val (.long i3), .second, .val (.long i4), .second, .val (.int n1), .val (.int n2), .val (.ref o), .val (.int zz), .val (.int (0 : Int32))]) X18 cx L_212 (fun _ => rfl) (fun i19 e_i19 => ?_)
          subst e_i19
          refine r_iload X18 cx L_214 rfl ?_
          refine r_zreturn X18 cx L_216 (by decide) (by decide) ?_
          rfl
        · refine r_iload X14 cx L_156 rfl ?_
          refine r_ifle X14 cx L_158 (fun c => absurd c (by decide)) (fun _ => ?_)
          refine r_aload X14 cx L_161 rfl ?_
          refine r_virtual [] [] X14 cx L_163 B.1 (hw.get 42 rfl) (hw.get 43 rfl) (hw.get 45 rfl) (hw.get 44 rfl) (hw.get 3 rfl) (hw.get 46 rfl) (by decide) (con_P61m4_1 K.l K.Z a0 hw o h12 K.n0 X14.ge an ak ap n1 n1 0 i3 i3 0 ((((([-1, -1, -1, -1].set v1 0).set v1 1).set v2 0).set v2 (-1)).set v1 0) (by first | rfl | (simp only [List.length_set]; rfl)) B v1 en1 hv1) (lenOf pd_5 rfl) rfl rfl (by decide) (leb rfl) (by decide) (by decide) (fun T16 h16 v16 X16 q16 => ?_) (fun _ _ q => q.1)
          obtain ⟨z16, rfl, B⟩ := q16
          replace B : NH K.Z K.n0 h16 o an ak ap [n1, n1, 0] [i3, i3, 0] (((((([-1, -1, -1, -1].set v1 0).set v1 1).set v2 0).set v2 (-1)).set v1 0).set v1 (-1)) 0 := B
          refine r_pop X16 cx L_166 rfl ?_
          refine r_iload X16 cx L_167 rfl ?_
          refine r_iconst (1) X16 cx L_169 rfl ?_
          refine r_isub X16 cx L_170 ?_
          refine r_top (v' := 0) (by decide) ?_
          refine r_istore (fun zz => #[.val (.int i0), .val (.int i1), .val (.int i2), .val (.long i3), .second, .val (.long i4), .second, .val (.int n1), .val (.int n2), .val (.ref o), .val (.int (1 : Int32)), .val (.int zz)]) X16 cx L_171 (fun _ => rfl) (fun i17 e_i17 => ?_)
          subst e_i17
          refine r_goto X16 cx L_173 ?_
          refine r_iload X16 cx L_184 rfl ?_
          refine r_ifeq X16 cx L_186 (fun c => absurd c (by decide)) (fun _ => ?_)
          refine r_aload X16 cx L_189 rfl ?_
          refine r_virtual [] [] X16 cx L_191 B.1 (hw.get 22 rfl) (hw.get 23 rfl) (hw.get 25 rfl) (hw.get 24 rfl) (hw.get 3 rfl) (hw.get 26 rfl) (by decide) (con_P61m2_0 K.l K.Z a0 hw o h16 K.n0 X16.ge an ak ap [n1, n1, 0] [i3, i3, 0] (((((([-1, -1, -1, -1].set v1 0).set v1 1).set v2 0).set v2 (-1)).set v1 0).set v1 (-1)) B) (lenOf pd_3 rfl) rfl rfl (by decide) (leb rfl) (by decide) (by decide) (fun T18 h18 v18 X18 q18 => ?_) (fun _ _ q => Nat.le_of_eq (congrArg Array.size q.1))
          obtain ⟨rfl, rfl⟩ := q18
          refine r_iload X18 cx L_194 rfl ?_
          refine r_ifne X18 cx L_196 (fun c => absurd c (by decide)) (fun _ => ?_)
          refine r_iconst (1) X18 cx L_199 rfl ?_
          refine r_goto X18 cx L_200 ?_
          refine r_icmpne X18 cx L_204 (fun c => absurd c (by decide)) (fun _ => ?_)
          refine r_iconst (1) X18 cx L_207 rfl ?_
          refine r_goto X18 cx L_208 ?_
          refine r_istore (fun zz => #[.val (.int i0), .val (.int i1), .val (.int i2), .val (.long i3), .second, .val (.long i4), .second, .val (.int n1), .val (.int n2), .val (.ref o), .val (.int zz), .val (.int (0 : Int32))]) X18 cx L_212 (fun _ => rfl) (fun i19 e_i19 => ?_)
          subst e_i19
          refine r_iload X18 cx L_214 rfl ?_
          refine r_zreturn X18 cx L_216 (by decide) (by decide) ?_
          rfl
      · exact absurd ((own_inj hv1 hv2).mp (en1.symm.trans (c98.trans en2))) hv
    · replace B : NH K.Z K.n0 h8 o an ak ap [n1, n2, 0] [i3, i4, 0] (([-1, -1, -1, -1].set v1 0).set v2 1) 2 := B
      refine r_iload X8 cx L_74 rfl ?_
      refine r_ifeq X8 cx L_76 (fun c => absurd c (by decide)) (fun _ => ?_)
      refine r_aload X8 cx L_79 rfl ?_
      refine r_virtual [] [] X8 cx L_81 B.1 (hw.get 22 rfl) (hw.get 23 rfl) (hw.get 25 rfl) (hw.get 24 rfl) (hw.get 3 rfl) (hw.get 26 rfl) (by decide) (con_P61m2_2 K.l K.Z a0 hw o h8 K.n0 X8.ge an ak ap [n1, n2, 0] [i3, i4, 0] (([-1, -1, -1, -1].set v1 0).set v2 1) B) (lenOf pd_3 rfl) rfl rfl (by decide) (leb rfl) (by decide) (by decide) (fun T9 h9 v9 X9 q9 => ?_) (fun _ _ q => Nat.le_of_eq (congrArg Array.size q.1))
      obtain ⟨rfl, rfl⟩ := q9
      refine r_ifne X9 cx L_84 (fun c => absurd c (by decide)) (fun _ => ?_)
      refine r_iconst (1) X9 cx L_87 rfl ?_
      refine r_goto X9 cx L_88 ?_
      refine r_istore (fun zz => #[.val (.int i0), .val (.int i1), .val (.int i2), .val (.long i3), .second, .val (.long i4), .second, .val (.int n1), .val (.int n2), .val (.ref o), .val (.int zz), .unset]) X9 cx L_92 (fun _ => rfl) (fun i10 e_i10 => ?_)
      subst e_i10
      refine r_iload X9 cx L_94 rfl ?_
      refine r_iload X9 cx L_96 rfl ?_
      refine r_icmpne X9 cx L_98 (fun c98 => ?_) (fun c98 => ?_)
      · refine r_iconst (2) X9 cx L_105 rfl ?_
        refine r_istore (fun zz => #[.val (.int i0), .val (.int i1), .val (.int i2), .val (.long i3), .second, .val (.long i4), .second, .val (.int n1), .val (.int n2), .val (.ref o), .val (.int (1 : Int32)), .val (.int zz)]) X9 cx L_106 (fun _ => rfl) (fun i11 e_i11 => ?_)
        subst e_i11
        refine r_aload X9 cx L_108 rfl ?_
        refine r_virtual [] [] X9 cx L_110 B.1 (hw.get 42 rfl) (hw.get 43 rfl) (hw.get 45 rfl) (hw.get 44 rfl) (hw.get 3 rfl) (hw.get 46 rfl) (by decide) (con_P61m4_2 K.l K.Z a0 hw o h8 K.n0 X9.ge an ak ap n1 n2 0 i3 i4 0 (([-1, -1, -1, -1].set v1 0).set v2 1) (by first | rfl | (simp only [List.length_set]; rfl)) B v1 v2 en1 en2 hv1 hv2) (lenOf pd_5 rfl) rfl rfl (by decide) (leb rfl) (by decide) (by decide) (fun T12 h12 v12 X12 q12 => ?_) (fun _ _ q => q.1)
        obtain ⟨z12, rfl, B⟩ := q12
        replace B : NH K.Z K.n0 h12 o an ak ap [n2, n2, 0] [i4, i4, 0] (((([-1, -1, -1, -1].set v1 0).set v2 1).set v1 (-1)).set v2 0) 1 := B
        refine r_pop X12 cx L_113 rfl ?_
        refine r_iload X12 cx L_114 rfl ?_
        refine r_iconst (1) X12 cx L_116 rfl ?_
        refine r_isub X12 cx L_117 ?_
        refine r_top (v' := 1) (by decide) ?_
        refine r_istore (fun zz => #[.val (.int i0), .val (.int i1), .val (.int i2), .val (.long i3), .second, .val (.long i4), .second, .val (.int n1), .val (.int n2), .val (.ref o), .val (.int (1 : Int32)), .val (.int zz)]) X12 cx L_118 (fun _ => rfl) (fun i13 e_i13 => ?_)
        subst e_i13
        refine r_iload X12 cx L_120 rfl ?_
        refine r_ifeq X12 cx L_122 (fun c => absurd c (by decide)) (fun _ => ?_)
        refine r_aload X12 cx L_125 rfl ?_
        refine r_virtual [] [] X12 cx L_127 B.1 (hw.get 22 rfl) (hw.get 23 rfl) (hw.get 25 rfl) (hw.get 24 rfl) (hw.get 3 rfl) (hw.get 26 rfl) (by decide) (con_P61m2_1 K.l K.Z a0 hw o h12 K.n0 X12.ge an ak ap [n2, n2, 0] [i4, i4, 0] (((([-1, -1, -1, -1].set v1 0).set v2 1).set v1 (-1)).set v2 0) B) (lenOf pd_3 rfl) rfl rfl (by decide) (leb rfl) (by decide) (by decide) (fun T14 h14 v14 X14 q14 => ?_) (fun _ _ q => Nat.le_of_eq (congrArg Array.size q.1))
        obtain ⟨rfl, rfl⟩ := q14
        refine r_iload X14 cx L_130 rfl ?_
        refine r_ifne X14 cx L_132 (fun _ => ?_) (fun c => absurd c (by decide))
        refine r_iconst (0) X14 cx L_139 rfl ?_
        refine r_icmpne X14 cx L_140 (fun c => absurd c (by decide)) (fun _ => ?_)
        refine r_iconst (1) X14 cx L_143 rfl ?_
        refine r_goto X14 cx L_144 ?_
        refine r_istore (fun zz => #[.val (.int i0), .val (.int i1), .val (.int i2), .val (.long i3), .second, .val (.long i4), .second, .val (.int n1), .val (.int n2), .val (.ref o), .val (.int zz), .val (.int (1 : Int32))]) X14 cx L_148 (fun _ => rfl) (fun i15 e_i15 => ?_)
        subst e_i15
        refine r_iloadN X14 cx L_150 rfl ?_
        refine r_iconst (1) X14 cx L_151 rfl ?_
        refine r_iand X14 cx L_152 ?_
        refine r_ifeq X14 cx L_153 (fun c153 => ?_) (fun c153 => ?_)
        · refine r_aload X14 cx L_176 rfl ?_
          refine r_virtual [] [] X14 cx L_178 B.1 (hw.get 47 rfl) (hw.get 48 rfl) (hw.get 50 rfl) (hw.get 49 rfl) (hw.get 3 rfl) (hw.get 51 rfl) (by decide) (con_P61m5_1 K.l K.Z a0 hw o h12 K.n0 X14.ge an ak ap n2 n2 0 i4 i4 0 (((([-1, -1, -1, -1].set v1 0).set v2 1).set v1 (-1)).set v2 0) (by first | rfl | (simp only [List.length_set]; rfl)) B v2 v2 0 en2 en2 rfl hv2 hv2 (by decide)) (lenOf pd_6 rfl) rfl rfl (by decide) (leb rfl) (by decide) (by decide) (fun T16 h16 v16 X16 q16 => ?_) (fun _ _ q => q.1)
          obtain ⟨z16, rfl, B⟩ := q16
          replace B : NH K.Z K.n0 h16 o an ak ap [n2, n2, 0] [i4, i4, 0] ((((([-1, -1, -1, -1].set v1 0).set v2 1).set v1 (-1)).set v2 0).set v2 (-1)) 0 := B
          refine r_iconst (0) X16 cx L_181 rfl ?_
          refine r_istore (fun zz => #[.val (.int i0), .val (.int i1), .val (.int i2), .val (.long i3), .second, .val (.long i4), .second, .val (.int n1), .val (.int n2), .val (.ref o), .val (.int (1 : Int32)), .val (.int zz)]) X16 cx L_182 (fun _ => rfl) (fun i17 e_i17 => ?_)
          subst e_i17
          refine r_iload X16 cx L_184 rfl ?_
          refine r_ifeq X16 cx L_186 (fun c => absurd c (by decide)) (fun _ => ?_)
          refine r_aload X16 cx L_189 rfl ?_
          refine r_virtual [] [] X16 cx L_191 B.1 (hw.get 22 rfl) (hw.get 23 rfl) (hw.get 25 rfl) (hw.get 24 rfl) (hw.get 3 rfl) (hw.get 26 rfl) (by decide) (con_P61m2_0 K.l K.Z a0 hw o h16 K.n0 X16.ge an ak ap [n2, n2, 0] [i4, i4, 0] ((((([-1, -1, -1, -1].set v1 0).set v2 1).set v1 (-1)).set v2 0).set v2 (-1)) B) (lenOf pd_3 rfl) rfl rfl (by decide) (leb rfl) (by decide) (by decide) (fun T18 h18 v18 X18 q18 => ?_) (fun _ _ q => Nat.le_of_eq (congrArg Array.size q.1))
          obtain ⟨rfl, rfl⟩ := q18
          refine r_iload X18 cx L_194 rfl ?_
          refine r_ifne X18 cx L_196 (fun c => absurd c (by decide)) (fun _ => ?_)
          refine r_iconst (1) X18 cx L_199 rfl ?_
          refine r_goto X18 cx L_200 ?_
          refine r_icmpne X18 cx L_204 (fun c => absurd c (by decide)) (fun _ => ?_)
          refine r_iconst (1) X18 cx L_207 rfl ?_
          refine r_goto X18 cx L_208 ?_
          refine r_istore (fun zz => #[.val (.int i0), .val (.int i1), .val (.int i2), .val (.long i3), .second, .val (.long i4), .second, .val (.int n1), .val (.int n2), .val (.ref o), .val (.int zz), .val (.int (0 : Int32))]) X18 cx L_212 (fun _ => rfl) (fun i19 e_i19 => ?_)
          subst e_i19
          refine r_iload X18 cx L_214 rfl ?_
          refine r_zreturn X18 cx L_216 (by decide) (by decide) ?_
          rfl
        · refine r_iload X14 cx L_156 rfl ?_
          refine r_ifle X14 cx L_158 (fun c => absurd c (by decide)) (fun _ => ?_)
          refine r_aload X14 cx L_161 rfl ?_
          refine r_virtual [] [] X14 cx L_163 B.1 (hw.get 42 rfl) (hw.get 43 rfl) (hw.get 45 rfl) (hw.get 44 rfl) (hw.get 3 rfl) (hw.get 46 rfl) (by decide) (con_P61m4_1 K.l K.Z a0 hw o h12 K.n0 X14.ge an ak ap n2 n2 0 i4 i4 0 (((([-1, -1, -1, -1].set v1 0).set v2 1).set v1 (-1)).set v2 0) (by first | rfl | (simp only [List.length_set]; rfl)) B v2 en2 hv2) (lenOf pd_5 rfl) rfl rfl (by decide) (leb rfl) (by decide) (by decide) (fun T16 h16 v16 X16 q16 => ?_) (fun _ _ q => q.1)
          obtain ⟨z16, rfl, B⟩ := q16
          replace B : NH K.Z K.n0 h16 o an ak ap [n2, n2, 0] [i4, i4, 0] ((((([-1, -1, -1, -1].set v1 0).set v2 1).set v1 (-1)).set v2 0).set v2 (-1)) 0 := B
          refine r_pop X16 cx L_166 rfl ?_
          refine r_iload X16 cx L_167 rfl ?_
          refine r_iconst (1) X16 cx L_169 rfl ?_
          refine r_isub X16 cx L_170 ?_
          refine r_top (v' := 0) (by decide) ?_
          refine r_istore (fun zz => #[.val (.int i0), .val (.int i1), .val (.int i2), .val (.long i3), .second, .val (.long i4), .second, .val (.int n1), .val (.int n2), .val (.ref o), .val (.int (1 : Int32)), .val (.int zz)]) X16 cx L_171 (fun _ => rfl) (fun i17 e_i17 => ?_)
          subst e_i17
          refine r_goto X16 cx L_173 ?_
          refine r_iload X16 cx L_184 rfl ?_
          refine r_ifeq X16 cx L_186 (fun c => absurd c (by decide)) (fun _ => ?_)
          refine r_aload X16 cx L_189 rfl ?_
          refine r_virtual [] [] X16 cx L_191 B.1 (hw.get 22 rfl) (hw.get 23 rfl) (hw.get 25 rfl) (hw.get 24 rfl) (hw.get 3 rfl) (hw.get 26 rfl) (by decide) (con_P61m2_0 K.l K.Z a0 hw o h16 K.n0 X16.ge an ak ap [n2, n2, 0] [i4, i4, 0] ((((([-1, -1, -1, -1].set v1 0).set v2 1).set v1 (-1)).set v2 0).set v2 (-1)) B) (lenOf pd_3 rfl) rfl rfl (by decide) (leb rfl) (by decide) (by decide) (fun T18 h18 v18 X18 q18 => ?_) (fun _ _ q => Nat.le_of_eq (congrArg Array.size q.1))
          obtain ⟨rfl, rfl⟩ := q18
          refine r_iload X18 cx L_194 rfl ?_
          refine r_ifne X18 cx L_196 (fun c => absurd c (by decide)) (fun _ => ?_)
          refine r_iconst (1) X18 cx L_199 rfl ?_
          refine r_goto X18 cx L_200 ?_
          refine r_icmpne X18 cx L_204 (fun c => absurd c (by decide)) (fun _ => ?_)
          refine r_iconst (1) X18 cx L_207 rfl ?_
          refine r_goto X18 cx L_208 ?_
          refine r_istore (fun zz => #[.val (.int i0), .val (.int i1), .val (.int i2), .val (.long i3), .second, .val (.long i4), .second, .val (.int n1), .val (.int n2), .val (.ref o), .val (.int zz), .val (.int (0 : Int32))]) X18 cx L_212 (fun _ => rfl) (fun i19 e_i19 => ?_)
          subst e_i19
          refine r_iload X18 cx L_214 rfl ?_
          refine r_zreturn X18 cx L_216 (by decide) (by decide) ?_
          rfl
      · exact absurd ((own_inj hv1 hv2).mp (en1.symm.trans (c98.trans en2))) hv
set_option maxRecDepth 65536 in
set_option maxHeartbeats 40000000 in
theorem comes_1 {Post : Tables → Env → Array Value → State → Outcome → State → Prop} (hpost : ∀ tb e args s v u, (limb_1_1.after args s (.returned v) u = true ∧ limb_1_2.after args s (.returned v) u = true ∧ True) → FrameEnd s (.returned v) u (Jvm.fieldLocs frame_1_writes args s ++ Jvm.arrayLocs frame_1_arrays args s ++ Jvm.staticLocs frame_1_statics s) 16 128 → Post tb e args s (.returned v) u) :
    ArmFor flags0 classFile x code maxLocals ret World_1 tables_1 room_1 Calls_1 rest_1 Pre_1 Post := by
  intro l hfl _ _ p e ha hc hk s m args below hf hA hF happ hP
  obtain ⟨hcalls, hrest, hpre⟩ := hP
  obtain ⟨-, -, -, hnamed, -, -, -, hat⟩ := (Spec.applies_iff hf).mp happ
  obtain ⟨hg, hn⟩ := and_e (Cond.before_iff.mp (show (Jvm.Cond.and given_1 narrow_1).before args s = true from hpre))
  obtain ⟨gc, r0⟩ := and_e hg
  obtain ⟨g0, r1⟩ := and_e r0
  obtain ⟨g1, r2⟩ := and_e r1
  obtain ⟨g2, r3⟩ := and_e r2
  obtain ⟨g3, r4⟩ := and_e r3
  obtain ⟨w0, w1, w2, w3, w4, rfl⟩ : ∃ w0 w1 w2 w3 w4 : Value, args = #[w0, w1, w2, w3, w4] := by
    have hs : args.size = 5 := by simpa [Cond.value, given_1] using gc
    obtain ⟨L⟩ := args
    match L, hs with
    | [w0, w1, w2, w3, w4], _ => exact ⟨w0, w1, w2, w3, w4, rfl⟩
  have hw : Tb tables_1 #[w0, w1, w2, w3, w4] s := fun d (hd : d ∈ tables_1) => atoms_spec (ws := Jvm.Cond.code x code maxLocals ret :: tables_1) hat d (List.mem_cons_of_mem _ hd)
  obtain ⟨i0, ei0⟩ := is_v g0
  obtain rfl : w0 = (.int i0) := Option.some.inj ei0
  obtain ⟨i1, ei1⟩ := is_v g1
  obtain rfl : w1 = (.int i1) := Option.some.inj ei1
  obtain ⟨i2, ei2⟩ := is_v g2
  obtain rfl : w2 = (.int i2) := Option.some.inj ei2
  obtain ⟨i3, ei3⟩ := isL_v g3
  obtain rfl : w3 = (.long i3) := Option.some.inj ei3
  obtain ⟨i4, ei4⟩ := isL_v r4
  obtain rfl : w4 = (.long i4) := Option.some.inj ei4
  obtain ⟨n, o, h1, h2, h3, _, L, rfl, ⟨rfl, N⟩, hq⟩ := con_L l s _ hw i0 i1 i2 i3 i4 s.heap s.heap.size (Nat.le_refl _) tables_1 p e ha hc hk s m _ below hf ((Spec.applies_iff_loose hf).mp happ).1 ⟨rfl, State.Warmed39.refl s, rfl⟩ trivial
  refine ⟨n, _, h1, h2, h3, hpost _ _ _ _ _ _ ⟨Cond.after_iff.mpr rfl, Cond.after_iff.mpr (eq_i res_at (Term.int_eval (1)) rfl), trivial⟩ ⟨hq.1, hq.2.1, (hq.2.2.sift fun y hy => Or.inr (N y hy)).mono (by decide) (by decide)⟩⟩
theorem main_1_1 : Claimed_1_1 := comes_1 fun _ _ _ _ _ _ h hF => ⟨h.1, hF⟩
theorem main_1_2 : Claimed_1_2 := comes_1 fun _ _ _ _ _ _ h hF => ⟨h.2.1, hF⟩
end Jvm.Pilot.@@N@@
namespace Jvm.Pilot.@@N@@
open Jvm Jvm.ClassFile Sem Op Lib Jvm.Free Jvm.Stand Jvm.Pilot.@@N@@.Jvm.D
/-! MADE BY PROGRAM (witnessworld.py) out of the Statement's table words and the real class files: 12 classes; the members and pool entries that the words name. The judged class is class 1, her method 1. -/
namespace start1
open Jvm.ClassFile
def u (s : String) : CpInfo := .utf8 (stringToUtf16 s)
/-- a pool by its gaps: so many unusable entries, then the entry; so many at the end -/
def gap : Nat → List CpInfo → List CpInfo
  | 0, r => r
  | n + 1, r => .unusable :: gap n r
def poolList (es : List (Nat × CpInfo)) (last : Nat) : List CpInfo := es.foldr (fun e r => gap e.1 (e.2 :: r)) (gap last [])
def pool (es : List (Nat × CpInfo)) (last : Nat) : Array CpInfo := ⟨poolList es last⟩
def fileOf (pool : Array CpInfo) (this : Nat) (attrs : Array Attribute := #[]) (ms : Array MethodInfo := #[]) (fl : Nat := 33) (sup : Nat := 0) (ifs : Array Nat := #[]) (fds : Array FieldInfo := #[]) : ClassFile where
  minorVersion := 0
  majorVersion := 65
  constantPool := pool
  accessFlags := fl
  thisClass := this
  superClass := sup
  interfaces := ifs
  fields := fds
  methods := ms
  attributes := attrs
def plain (name : String) (sup : Option ClassId) : Class where
  name := name
  kind := .ordinary
  loader := none
  accessFlags := 33
  super := sup
  interfaces := #[]
  cf := none
  fields := #[]
  methods := #[]
  instanceTypes := #[]
  staticTypes := #[]
  resolved := #[]
  callSites := []
  init := .initialized
  statics := none
  mirror := none

def pool0 : Array CpInfo := pool [(5, u "<init>"), (0, u "()V"), (1, .class_ 10), (1, u "java/lang/Object")] 113

def k0c0 : Code := { maxStack := 0, maxLocals := 1, code := object_method_1_code, exceptionTable := #[], attributes := #[] }
def k0m0 : Method := { name := "<init>", desc := "()V", sig := { parameters := [], returnType := none }, accessFlags := 1, code := some k0c0 }
/-- java/lang/Object -/
def k0 : Class := { plain "java/lang/Object" none with
  accessFlags := 33
  interfaces := #[]
  cf := some (fileOf pool0 8 #[] #[{ accessFlags := 1, nameIndex := 5, descriptorIndex := 6, attributes := #[] }] 33 0 #[] #[])
  fields := #[]
  methods := #[k0m0]
  instanceTypes := #[]
  staticTypes := #[]
  resolved := Array.replicate 124 none
  statics := none }

def pool1 : Array CpInfo := pool [(2, .class_ 4), (1, u "java/lang/Object"), (0, u "<init>"), (0, u "()V"), (0, .integer 2147483647), (0, .class_ 9), (0, u "com/example/lacewood/lacewood/paths/NodeHeap"), (0, .methodref 8 11), (0, .nameAndType 5 12), (0, u "(I)V"), (0, .methodref 8 14), (0, .nameAndType 15 16), (0, u "isEmpty"), (0, u "()Z"), (0, .methodref 8 18), (0, .nameAndType 19 20), (0, u "offer"), (0, u "(IJ)V"), (0, .methodref 8 22), (0, .nameAndType 23 24), (0, u "poll"), (0, u "()I"), (0, .methodref 8 26), (0, .nameAndType 27 6), (0, u "clear"), (0, .class_ 29), (0, u "com/example/lacewood/lacewood/paths/NodeHeapIsEmptyPinLaw"), (2, u "law"), (0, u "(IIIJJ)Z")] 3

def k1m0 : Method := { name := "<init>", desc := "()V", sig := { parameters := [], returnType := none }, accessFlags := 1, code := none }
def k1c1 : Code := { maxStack := 4, maxLocals := 12, code := code, exceptionTable := #[], attributes := #[] }
def k1m1 : Method := { name := "law", desc := "(IIIJJ)Z", sig := { parameters := [.int, .int, .int, .long, .long], returnType := some .boolean }, accessFlags := 9, code := some k1c1 }
/-- com/example/lacewood/lacewood/paths/NodeHeapIsEmptyPinLaw -/
def k1 : Class := { plain "com/example/lacewood/lacewood/paths/NodeHeapIsEmptyPinLaw" (some 0) with
  accessFlags := 49
  interfaces := #[]
  cf := some (fileOf pool1 28 #[] #[{ accessFlags := 1, nameIndex := 5, descriptorIndex := 6, attributes := #[] }, { accessFlags := 9, nameIndex := 32, descriptorIndex := 33, attributes := #[] }] 49 2 #[] #[])
  fields := #[]
  methods := #[k1m0, k1m1]
  instanceTypes := #[]
  staticTypes := #[]
  resolved := Array.replicate 37 none
  statics := none }

def pool2 : Array CpInfo := pool [(1, .methodref 2 3), (0, .class_ 4), (0, .nameAndType 5 6), (0, u "java/lang/Object"), (0, u "<init>"), (0, u "()V"), (0, .fieldref 8 9), (0, .class_ 10), (0, .nameAndType 11 12), (0, u "com/example/lacewood/lacewood/paths/NodeHeap"), (0, u "nodes"), (0, u "[I"), (0, .fieldref 8 14), (0, .nameAndType 15 16), (0, u "keys"), (0, u "[J"), (0, .fieldref 8 18), (0, .nameAndType 19 12), (0, u "positionOf"), (0, .methodref 21 22), (0, .class_ 23), (0, .nameAndType 24 25), (0, u "java/util/Arrays"), (0, u "fill"), (0, u "([II)V"), (0, .fieldref 8 27), (0, .nameAndType 28 29), (0, u "size"), (0, u "I"), (0, .methodref 8 31), (0, .nameAndType 32 33), (0, u "siftUp"), (0, u "(IJI)V"), (0, .methodref 8 35), (0, .nameAndType 36 33), (0, u "siftDown"), (0, .methodref 8 38), (0, .nameAndType 39 33), (0, u "place"), (0, u "ABSENT"), (2, u "(I)V"), (2, u "isEmpty"), (0, u "()Z"), (1, u "offer"), (0, u "(IJ)V"), (0, u "poll"), (0, u "()I"), (0, u "clear")] 2

def k2c0 : Code := { maxStack := 3, maxLocals := 2, code := prog_61_method_1_code, exceptionTable := #[], attributes := #[] }
def k2m0 : Method := { name := "<init>", desc := "(I)V", sig := { parameters := [.int], returnType := none }, accessFlags := 0, code := some k2c0 }
def k2c1 : Code := { maxStack := 1, maxLocals := 1, code := prog_61_method_2_code, exceptionTable := #[], attributes := #[] }
def k2m1 : Method := { name := "isEmpty", desc := "()Z", sig := { parameters := [], returnType := some .boolean }, accessFlags := 0, code := some k2c1 }
def k2c2 : Code := { maxStack := 5, maxLocals := 5, code := prog_61_method_3_code, exceptionTable := #[], attributes := #[] }
def k2m2 : Method := { name := "offer", desc := "(IJ)V", sig := { parameters := [.int, .long], returnType := none }, accessFlags := 0, code := some k2c2 }
def k2c3 : Code := { maxStack := 5, maxLocals := 2, code := prog_61_method_4_code, exceptionTable := #[], attributes := #[] }
def k2m3 : Method := { name := "poll", desc := "()I", sig := { parameters := [], returnType := some .int }, accessFlags := 0, code := some k2c3 }
def k2c4 : Code := { maxStack := 3, maxLocals := 2, code := prog_61_method_5_code, exceptionTable := #[], attributes := #[] }
def k2m4 : Method := { name := "clear", desc := "()V", sig := { parameters := [], returnType := none }, accessFlags := 0, code := some k2c4 }
def k2c5 : Code := { maxStack := 5, maxLocals := 7, code := prog_61_method_6_code, exceptionTable := #[], attributes := #[] }
def k2m5 : Method := { name := "siftUp", desc := "(IJI)V", sig := { parameters := [.int, .long, .int], returnType := none }, accessFlags := 2, code := some k2c5 }
def k2c6 : Code := { maxStack := 5, maxLocals := 8, code := prog_61_method_7_code, exceptionTable := #[], attributes := #[] }
def k2m6 : Method := { name := "siftDown", desc := "(IJI)V", sig := { parameters := [.int, .long, .int], returnType := none }, accessFlags := 2, code := some k2c6 }
def k2c7 : Code := { maxStack := 4, maxLocals := 5, code := prog_61_method_8_code, exceptionTable := #[], attributes := #[] }
def k2m7 : Method := { name := "place", desc := "(IJI)V", sig := { parameters := [.int, .long, .int], returnType := none }, accessFlags := 2, code := some k2c7 }
/-- com/example/lacewood/lacewood/paths/NodeHeap -/
def k2 : Class := { plain "com/example/lacewood/lacewood/paths/NodeHeap" (some 0) with
  accessFlags := 48
  interfaces := #[]
  cf := some (fileOf pool2 8 #[] #[{ accessFlags := 0, nameIndex := 5, descriptorIndex := 43, attributes := #[] }, { accessFlags := 0, nameIndex := 46, descriptorIndex := 47, attributes := #[] }, { accessFlags := 0, nameIndex := 49, descriptorIndex := 50, attributes := #[] }, { accessFlags := 0, nameIndex := 51, descriptorIndex := 52, attributes := #[] }, { accessFlags := 0, nameIndex := 53, descriptorIndex := 6, attributes := #[] }, { accessFlags := 2, nameIndex := 32, descriptorIndex := 33, attributes := #[] }, { accessFlags := 2, nameIndex := 36, descriptorIndex := 33, attributes := #[] }, { accessFlags := 2, nameIndex := 39, descriptorIndex := 33, attributes := #[] }] 48 2 #[] #[{ accessFlags := 26, nameIndex := 40, descriptorIndex := 29, attributes := #[] }, { accessFlags := 18, nameIndex := 11, descriptorIndex := 12, attributes := #[] }, { accessFlags := 18, nameIndex := 15, descriptorIndex := 16, attributes := #[] }, { accessFlags := 18, nameIndex := 19, descriptorIndex := 12, attributes := #[] }, { accessFlags := 2, nameIndex := 28, descriptorIndex := 29, attributes := #[] }])
  fields := #[{ name := "ABSENT", type := .int, accessFlags := 26, slot := 0, constantValue := 0 }, { name := "nodes", type := (.array .int), accessFlags := 18, slot := 0, constantValue := 0 }, { name := "keys", type := (.array .long), accessFlags := 18, slot := 1, constantValue := 0 }, { name := "positionOf", type := (.array .int), accessFlags := 18, slot := 2, constantValue := 0 }, { name := "size", type := .int, accessFlags := 2, slot := 3, constantValue := 0 }]
  methods := #[k2m0, k2m1, k2m2, k2m3, k2m4, k2m5, k2m6, k2m7]
  instanceTypes := #[(.array .int), (.array .long), (.array .int), .int]
  staticTypes := #[.int]
  resolved := Array.replicate 56 none
  statics := none }

def pool3 : Array CpInfo := pool [(2, .class_ 4), (1, u "java/lang/Object"), (0, u "<init>"), (0, u "()V"), (7, .class_ 16), (1, u "java/util/Arrays"), (57, .class_ 76), (1, u "java/util/Arrays$NaturalOrder"), (36, .class_ 115), (1, u "java/util/Arrays$LegacyMergeSort"), (1, u "Z"), (257, .class_ 376), (0, u "java/util/Arrays$ArrayList"), (68, u "$assertionsDisabled"), (269, u "MIN_ARRAY_SORT_GRAN"), (0, u "I"), (2, u "INSERTIONSORT_THRESHOLD"), (120, u "fill"), (4, u "([II)V"), (129, .class_ 976), (0, u "java/util/Arrays$ArrayItr")] 52

def k3m0 : Method := { name := "<init>", desc := "()V", sig := { parameters := [], returnType := none }, accessFlags := 2, code := none }
def k3c1 : Code := { maxStack := 3, maxLocals := 4, code := jdk_65_method_103_code, exceptionTable := #[], attributes := #[] }
def k3m1 : Method := { name := "fill", desc := "([II)V", sig := { parameters := [(.array .int), .int], returnType := none }, accessFlags := 9, code := some k3c1 }
/-- java/util/Arrays -/
def k3 : Class := { plain "java/util/Arrays" (some 0) with
  accessFlags := 49
  interfaces := #[]
  cf := some (fileOf pool3 14 #[.nestMembers #[975, 375, 113, 74]] #[{ accessFlags := 2, nameIndex := 5, descriptorIndex := 6, attributes := #[] }, { accessFlags := 9, nameIndex := 840, descriptorIndex := 845, attributes := #[] }] 49 2 #[] #[{ accessFlags := 26, nameIndex := 715, descriptorIndex := 716, attributes := #[] }, { accessFlags := 26, nameIndex := 719, descriptorIndex := 716, attributes := #[] }, { accessFlags := 4120, nameIndex := 445, descriptorIndex := 117, attributes := #[] }])
  fields := #[{ name := "MIN_ARRAY_SORT_GRAN", type := .int, accessFlags := 26, slot := 0, constantValue := 0 }, { name := "INSERTIONSORT_THRESHOLD", type := .int, accessFlags := 26, slot := 1, constantValue := 0 }, { name := "$assertionsDisabled", type := .boolean, accessFlags := 4120, slot := 2, constantValue := 0 }]
  methods := #[k3m0, k3m1]
  instanceTypes := #[]
  staticTypes := #[.int, .int, .boolean]
  resolved := Array.replicate 1029 none
  statics := none }

def pool4 : Array CpInfo := pool [(1, u "java/lang/Cloneable"), (0, .class_ 1), (0, u "java/lang/Object"), (0, .class_ 3)] 3

/-- java/lang/Cloneable -/
def k4 : Class := { plain "java/lang/Cloneable" (some 0) with
  accessFlags := 1537
  interfaces := #[]
  cf := some (fileOf pool4 2 #[] #[] 1537 4 #[] #[])
  fields := #[]
  methods := #[]
  instanceTypes := #[]
  staticTypes := #[]
  resolved := Array.replicate 8 none
  statics := none }

def pool5 : Array CpInfo := pool [(1, u "java/io/Serializable"), (0, .class_ 1), (0, u "java/lang/Object"), (0, .class_ 3)] 3

/-- java/io/Serializable -/
def k5 : Class := { plain "java/io/Serializable" (some 0) with
  accessFlags := 1537
  interfaces := #[]
  cf := some (fileOf pool5 2 #[] #[] 1537 4 #[] #[])
  fields := #[]
  methods := #[]
  instanceTypes := #[]
  staticTypes := #[]
  resolved := Array.replicate 8 none
  statics := none }

/-- the primitive byte -/
def k6 : Class := { plain "byte" none with kind := .primitive 'B', accessFlags := 0x411 }
/-- [B -/
def k7 : Class := { plain "[B" (some 0) with kind := .array 6 .byte, interfaces := #[4, 5], accessFlags := 1041 }

/-- the primitive int -/
def k8 : Class := { plain "int" none with kind := .primitive 'I', accessFlags := 0x411 }
/-- [I -/
def k9 : Class := { plain "[I" (some 0) with kind := .array 8 .int, interfaces := #[4, 5], accessFlags := 1041 }

/-- the primitive long -/
def k10 : Class := { plain "long" none with kind := .primitive 'J', accessFlags := 0x411 }
/-- [J -/
def k11 : Class := { plain "[J" (some 0) with kind := .array 10 .long, interfaces := #[4, 5], accessFlags := 1041 }

def heap : Heap := #[]
def classes : Array Class := #[k0, k1, k2, k3, k4, k5, k6, k7, k8, k9, k10, k11]
def interned : List (Array UInt16 × Addr) := []
def slotsUsed : Nat := 0
def theMethod : MethodId := ⟨1, 1⟩
def args0 : Array Value := #[.int 5, .int 6, .int 7, .long 8, .long 9]
def aboutOver (below : List Frame) : State where
  vm := { classes := classes, interned := interned.toArray }
  heap := heap
  slotsUsed := slotsUsed
  threads := #[{ frames := .invoking theMethod args0 :: below }]
def below0 : List Frame := [.native { method := ⟨0, 0⟩, args := #[] }]
def about1 : State := aboutOver below0
def p0 : Program := .bare "" "" ""
def e0 : Env := launch0.env 0 0 0
theorem w_frames : about1.frames = Frame.invoking theMethod args0 :: below0 := rfl
set_option maxRecDepth 65536 in
theorem w_args : argsFit about1.vm theMethod args0 = true := by decide +kernel
set_option maxRecDepth 65536 in
theorem w_heap : heapFits about1 = true := by decide +kernel
set_option maxRecDepth 65536 in
theorem w_runnable : about1.curStatus? = some .runnable := by decide +kernel
set_option maxRecDepth 65536 in
theorem w_alone : about1.alone = true := by decide +kernel
set_option maxRecDepth 65536 in
theorem w_named : about1.methodNamed? x = some theMethod := by decide +kernel
set_option maxRecDepth 65536 in
theorem w_hears : about1.hears theMethod below0 = true := by decide +kernel
set_option maxRecDepth 65536 in
theorem w_ripe : about1.ripe theMethod args0 below0 = true := by decide +kernel
theorem w_running : about1.status = .running := rfl
set_option maxRecDepth 65536 in
theorem w_room : about1.hasRoom e0.platform room_1 = true :=
  launch0.hasRoom_least _ room_1 (by decide +kernel) (by decide +kernel) (by decide +kernel) (by decide +kernel) (by decide +kernel) (by decide +kernel)
theorem allAtoms_all (ts : List Jvm.Cond) (a : Array Jvm.Value) (st : Jvm.State) : (allAtoms ts).before a st = ts.all (fun c => c.before a st) := by
  induction ts with
  | nil => rfl
  | cons c t ih =>
    show (Jvm.Cond.and c (allAtoms t)).before a st = _
    rw [Jvm.Cond.before_and, ih, List.all_cons]
def words1 : List Jvm.Cond := Jvm.Cond.code x code maxLocals ret :: tables_1
/-- a 'code' word, met by the world's own term for the bytes: nothing is compared byte by byte -/
theorem code_word {y : MethodName} {bytes : ByteArray} {mx : Nat} {rt : Option FieldType} {a : Array Value} {s : State} {m : MethodId} {meth : Method} {c : Code} (h1 : s.methodNamed? y = some m) (h2 : s.vm.method? m = some meth) (h3 : meth.code = some c) (h4 : c.code = bytes)
    (h5 : (c.maxLocals == mx && c.exceptionTable.isEmpty && decide (c.maxStack ≤ mostOperands) && decide (meth.sig.returnType = rt) && !meth.locks && decide (parseMethodDescriptor y.desc = some meth.sig)) = true) : (Jvm.Cond.code y bytes mx rt).before a s = true := by
  simp only [Bool.and_eq_true, beq_iff_eq, Bool.not_eq_true', decide_eq_true_eq] at h5
  obtain ⟨⟨⟨⟨⟨g1, g2⟩, g3⟩, g4⟩, g5⟩, g6⟩ := h5
  simp [Cond.before, Cond.holds, Cond.value, h1, h2, h3, h4, g1, g2, g3, g4, g5, g6]
def isCode : Jvm.Cond → Bool
  | .code _ _ _ _ => true
  | _ => false
theorem all_split {L : List Jvm.Cond} {P : Jvm.Cond → Bool} (h1 : L.all (fun c => isCode c || P c) = true) (h2 : ∀ c ∈ L.filter isCode, P c = true) : L.all P = true := by
  refine List.all_eq_true.mpr fun c hc => ?_
  have h := List.all_eq_true.mp h1 c hc
  rcases Bool.eq_false_or_eq_true (isCode c) with hi | hi
  · exact h2 c (List.mem_filter.mpr ⟨hc, hi⟩)
  · simpa [hi] using h
set_option maxRecDepth 65536 in
theorem w_c0 : (Jvm.Cond.code x code maxLocals ret).before args0 about1 = true := code_word (m := ⟨1, 1⟩) (meth := k1m1) (c := k1c1) (by decide +kernel) rfl rfl rfl (by decide +kernel)
set_option maxRecDepth 65536 in
theorem w_c1 : (Jvm.Cond.code ({ cls := "com/example/lacewood/lacewood/paths/NodeHeap", name := "<init>", desc := "(I)V" } : Jvm.MethodName) prog_61_method_1_code (2 : Nat) (Option.none : Option Jvm.ClassFile.FieldType)).before args0 about1 = true := code_word (m := ⟨2, 0⟩) (meth := k2m0) (c := k2c0) (by decide +kernel) rfl rfl rfl (by decide +kernel)
set_option maxRecDepth 65536 in
theorem w_c2 : (Jvm.Cond.code ({ cls := "java/lang/Object", name := "<init>", desc := "()V" } : Jvm.MethodName) object_method_1_code (1 : Nat) (Option.none : Option Jvm.ClassFile.FieldType)).before args0 about1 = true := code_word (m := ⟨0, 0⟩) (meth := k0m0) (c := k0c0) (by decide +kernel) rfl rfl rfl (by decide +kernel)
set_option maxRecDepth 65536 in
theorem w_c3 : (Jvm.Cond.code ({ cls := "java/util/Arrays", name := "fill", desc := "([II)V" } : Jvm.MethodName) jdk_65_method_103_code (4 : Nat) (Option.none : Option Jvm.ClassFile.FieldType)).before args0 about1 = true := code_word (m := ⟨3, 1⟩) (meth := k3m1) (c := k3c1) (by decide +kernel) rfl rfl rfl (by decide +kernel)
set_option maxRecDepth 65536 in
theorem w_c4 : (Jvm.Cond.code ({ cls := "com/example/lacewood/lacewood/paths/NodeHeap", name := "isEmpty", desc := "()Z" } : Jvm.MethodName) prog_61_method_2_code (1 : Nat) (Option.some Jvm.ClassFile.FieldType.boolean)).before args0 about1 = true := code_word (m := ⟨2, 1⟩) (meth := k2m1) (c := k2c1) (by decide +kernel) rfl rfl rfl (by decide +kernel)
set_option maxRecDepth 65536 in
theorem w_c5 : (Jvm.Cond.code ({ cls := "com/example/lacewood/lacewood/paths/NodeHeap", name := "offer", desc := "(IJ)V" } : Jvm.MethodName) prog_61_method_3_code (5 : Nat) (Option.none : Option Jvm.ClassFile.FieldType)).before args0 about1 = true := code_word (m := ⟨2, 2⟩) (meth := k2m2) (c := k2c2) (by decide +kernel) rfl rfl rfl (by decide +kernel)
set_option maxRecDepth 65536 in
theorem w_c6 : (Jvm.Cond.code ({ cls := "com/example/lacewood/lacewood/paths/NodeHeap", name := "siftUp", desc := "(IJI)V" } : Jvm.MethodName) prog_61_method_6_code (7 : Nat) (Option.none : Option Jvm.ClassFile.FieldType)).before args0 about1 = true := code_word (m := ⟨2, 5⟩) (meth := k2m5) (c := k2c5) (by decide +kernel) rfl rfl rfl (by decide +kernel)
set_option maxRecDepth 65536 in
theorem w_c7 : (Jvm.Cond.code ({ cls := "com/example/lacewood/lacewood/paths/NodeHeap", name := "place", desc := "(IJI)V" } : Jvm.MethodName) prog_61_method_8_code (5 : Nat) (Option.none : Option Jvm.ClassFile.FieldType)).before args0 about1 = true := code_word (m := ⟨2, 7⟩) (meth := k2m7) (c := k2c7) (by decide +kernel) rfl rfl rfl (by decide +kernel)
set_option maxRecDepth 65536 in
theorem w_c8 : (Jvm.Cond.code ({ cls := "com/example/lacewood/lacewood/paths/NodeHeap", name := "poll", desc := "()I" } : Jvm.MethodName) prog_61_method_4_code (2 : Nat) (Option.some Jvm.ClassFile.FieldType.int)).before args0 about1 = true := code_word (m := ⟨2, 3⟩) (meth := k2m3) (c := k2c3) (by decide +kernel) rfl rfl rfl (by decide +kernel)
set_option maxRecDepth 65536 in
theorem w_c9 : (Jvm.Cond.code ({ cls := "com/example/lacewood/lacewood/paths/NodeHeap", name := "clear", desc := "()V" } : Jvm.MethodName) prog_61_method_5_code (2 : Nat) (Option.none : Option Jvm.ClassFile.FieldType)).before args0 about1 = true := code_word (m := ⟨2, 4⟩) (meth := k2m4) (c := k2c4) (by decide +kernel) rfl rfl rfl (by decide +kernel)
set_option maxRecDepth 65536 in
theorem w_c10 : (Jvm.Cond.code ({ cls := "com/example/lacewood/lacewood/paths/NodeHeap", name := "siftDown", desc := "(IJI)V" } : Jvm.MethodName) prog_61_method_7_code (8 : Nat) (Option.none : Option Jvm.ClassFile.FieldType)).before args0 about1 = true := code_word (m := ⟨2, 6⟩) (meth := k2m6) (c := k2c6) (by decide +kernel) rfl rfl rfl (by decide +kernel)
def codes1 : List Jvm.Cond := [Jvm.Cond.code x code maxLocals ret, Jvm.Cond.code ({ cls := "com/example/lacewood/lacewood/paths/NodeHeap", name := "<init>", desc := "(I)V" } : Jvm.MethodName) prog_61_method_1_code (2 : Nat) (Option.none : Option Jvm.ClassFile.FieldType), Jvm.Cond.code ({ cls := "java/lang/Object", name := "<init>", desc := "()V" } : Jvm.MethodName) object_method_1_code (1 : Nat) (Option.none : Option Jvm.ClassFile.FieldType), Jvm.Cond.code ({ cls := "java/util/Arrays", name := "fill", desc := "([II)V" } : Jvm.MethodName) jdk_65_method_103_code (4 : Nat) (Option.none : Option Jvm.ClassFile.FieldType), Jvm.Cond.code ({ cls := "com/example/lacewood/lacewood/paths/NodeHeap", name := "isEmpty", desc := "()Z" } : Jvm.MethodName) prog_61_method_2_code (1 : Nat) (Option.some Jvm.ClassFile.FieldType.boolean), Jvm.Cond.code ({ cls := "com/example/lacewood/lacewood/paths/NodeHeap", name := "offer", desc := "(IJ)V" } : Jvm.MethodName) prog_61_method_3_code (5 : Nat) (Option.none : Option Jvm.ClassFile.FieldType), Jvm.Cond.code ({ cls := "com/example/lacewood/lacewood/paths/NodeHeap", name := "siftUp", desc := "(IJI)V" } : Jvm.MethodName) prog_61_method_6_code (7 : Nat) (Option.none : Option Jvm.ClassFile.FieldType), Jvm.Cond.code ({ cls := "com/example/lacewood/lacewood/paths/NodeHeap", name := "place", desc := "(IJI)V" } : Jvm.MethodName) prog_61_method_8_code (5 : Nat) (Option.none : Option Jvm.ClassFile.FieldType), Jvm.Cond.code ({ cls := "com/example/lacewood/lacewood/paths/NodeHeap", name := "poll", desc := "()I" } : Jvm.MethodName) prog_61_method_4_code (2 : Nat) (Option.some Jvm.ClassFile.FieldType.int), Jvm.Cond.code ({ cls := "com/example/lacewood/lacewood/paths/NodeHeap", name := "clear", desc := "()V" } : Jvm.MethodName) prog_61_method_5_code (2 : Nat) (Option.none : Option Jvm.ClassFile.FieldType), Jvm.Cond.code ({ cls := "com/example/lacewood/lacewood/paths/NodeHeap", name := "siftDown", desc := "(IJI)V" } : Jvm.MethodName) prog_61_method_7_code (8 : Nat) (Option.none : Option Jvm.ClassFile.FieldType)]
set_option maxRecDepth 65536 in
theorem codes_eq : words1.filter isCode = codes1 := rfl
theorem w_codes : ∀ c ∈ words1.filter isCode, c.before args0 about1 = true := by
  rw [codes_eq]
  intro c hc
  simp only [codes1, List.mem_cons, List.not_mem_nil, or_false] at hc
  rcases hc with rfl | rfl | rfl | rfl | rfl | rfl | rfl | rfl | rfl | rfl | rfl
  · exact w_c0
  · exact w_c1
  · exact w_c2
  · exact w_c3
  · exact w_c4
  · exact w_c5
  · exact w_c6
  · exact w_c7
  · exact w_c8
  · exact w_c9
  · exact w_c10
set_option maxRecDepth 65536 in
theorem w_t1 : (words1.take 24).all (fun c => isCode c || c.before args0 about1) = true := by decide +kernel
set_option maxRecDepth 65536 in
theorem w_t2 : ((words1.drop 24).take 24).all (fun c => isCode c || c.before args0 about1) = true := by decide +kernel
set_option maxRecDepth 65536 in
theorem w_t3 : ((words1.drop 24).drop 24).all (fun c => isCode c || c.before args0 about1) = true := by decide +kernel
theorem w_tables : (allAtoms (Jvm.Cond.code x code maxLocals ret :: tables_1)).before args0 about1 = true := by
  rw [allAtoms_all]
  show words1.all (fun c => c.before args0 about1) = true
  refine all_split ?_ w_codes
  rw [← List.take_append_drop 24 words1, List.all_append, w_t1, ← List.take_append_drop 24 (words1.drop 24), List.all_append, w_t2, w_t3]
  rfl
set_option maxRecDepth 65536 in
theorem w_case : (Jvm.Cond.and given_1 narrow_1).before args0 about1 = true := by decide +kernel
theorem w_applies : (headSpec (Jvm.Cond.code x code maxLocals ret :: tables_1) room_1).applies x e0.platform about1 = true :=
  (Spec.applies_iff w_frames).mpr ⟨w_running, w_runnable, w_alone, w_named, w_hears, w_ripe, w_room, w_tables⟩
theorem atStart : AtStart classFile x code maxLocals ret World_1 tables_1 room_1 Calls_1 rest_1 Pre_1 launch0 p0 e0 about1 theMethod args0 below0 :=
  ⟨lists_1, trivial, launch0.admits_env _ _ _, launch0.least_env, fairChoices_fair.cas, fairChoices_fair.clock, w_frames, w_args, w_heap, w_applies, trivial, trivial, w_case⟩
end start1
theorem witness_1 : WitnessClaimed_1 := ⟨start1.p0, start1.e0, start1.about1, start1.theMethod, start1.args0, start1.below0, start1.atStart⟩
end Jvm.Pilot.@@N@@

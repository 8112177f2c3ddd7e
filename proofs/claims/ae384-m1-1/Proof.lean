import JvmDerived
import JvmDerived.Pilot.@@N@@Statement
import JvmDerived.Pilot.@@N@@Code
set_option linter.unusedVariables false
set_option linter.unusedSimpArgs false
namespace Jvm.RoadKit
open Sem ClassFile Op Lib Jvm.Stand Jvm.Free Jvm.LawKit
section New
variable {p : Program} {l : Launch} {e : Env} {R : Room} {s : State} {m : MethodId} {args : Array Value} {below : List Frame} {meth : Method} {c : Code} {T : State} {locs : List Loc} {cells slots : Nat}
theorem retI (X : Stand p l e R s m args below meth c T locs cells slots) (hx : p.tables.exec = Jvm.exec) {pc : Nat} {Ls : Array Slot} {z : Int32} {rest : List Value} (hret : meth.sig.returnType = some .int) (hd : decode c.code pc = .ok (.ireturn, 1)) {fs : List Frame}
    (hl : ∀ (f : JFrame) (acts : List Action), f.method = m → f.locked = none → f.entered = [] → (doReturn e (T.setTop f) acts (some (.int z))).1 = T.setFrames fs) : Steps p.tables e below (T.setTop (mkF m pc Ls (.int z :: rest))) (T.setFrames fs) := by
  have hm' : T.vm.method? m = some meth := X.method'
  have hn : narrow .int (.int z) = .int z := rfl
  show Steps p.tables e below (T.setTop { method := m, pc := pc, locals := Ls, stack := _ :: rest, locked := none }) _
  jvm_step X.here [X.here.top, hx, hd, hm', hret, hn]
  first | (intro acts; rw [hl _ acts rfl rfl rfl]) | rw [hl _ _ rfl rfl rfl]
  exact Steps.refl _
end New
end Jvm.RoadKit
namespace Jvm.Own
open Sem ClassFile Op Lib Jvm.Stand Jvm.Free Jvm.LawKit Jvm.RoadKit
/-- the constants of one body's walk -/
abbrev KT := Program × Launch × Env × Room × State × MethodId × Array Value × List Frame × Method × Code × State × Nat
abbrev KT.p (K : KT) : Program := K.1
abbrev KT.l (K : KT) : Launch := K.2.1
abbrev KT.e (K : KT) : Env := K.2.2.1
abbrev KT.R (K : KT) : Room := K.2.2.2.1
abbrev KT.s (K : KT) : State := K.2.2.2.2.1
abbrev KT.m (K : KT) : MethodId := K.2.2.2.2.2.1
abbrev KT.args (K : KT) : Array Value := K.2.2.2.2.2.2.1
abbrev KT.below (K : KT) : List Frame := K.2.2.2.2.2.2.2.1
abbrev KT.meth (K : KT) : Method := K.2.2.2.2.2.2.2.2.1
abbrev KT.c (K : KT) : Code := K.2.2.2.2.2.2.2.2.2.1
abbrev KT.Z (K : KT) : State := K.2.2.2.2.2.2.2.2.2.2.1
abbrev KT.n0 (K : KT) : Nat := K.2.2.2.2.2.2.2.2.2.2.2
/-- what is known of the body -/
def Cx (K : KT) (y : MethodName) (bytes : ByteArray) (mx : Nat) (rt : Option FieldType) (R : Room) : Prop :=
  K.p.tables.exec = Jvm.exec ∧ K.Z.Warmed39 K.s.vm ∧ K.c.code = bytes ∧ K.c.maxLocals = mx ∧ K.s.vm.findClass y.cls = some K.m.cls ∧ K.meth.sig.returnType = rt ∧ K.meth.locks = false ∧ K.R = R ∧ K.meth.name = y.name
/-- where the walk stands: heap h, so many cells and slots made; nothing old written -/
def Sd (K : KT) (T : State) (h : Heap) (cl sl : Nat) : Prop := ∃ locs, Stand K.p K.l K.e K.R K.s K.m K.args K.below K.meth K.c T locs cl sl ∧ Fr K.n0 locs ∧ K.n0 ≤ h.size ∧ T.heap = h
/-- from here the body comes to its end, and Q holds of what it returns and of the heap then -/
def Run (K : KT) (Q : Option Value → Heap → Prop) (T : State) (g : JFrame) : Prop :=
  ∃ s₂ v L, Steps K.p.tables K.e K.below (T.setTop g) s₂ ∧ s₂.status = .running ∧ Ended s₂ K.below (.returned v) ∧ Q v s₂.heap ∧ Fr K.n0 L ∧ FrameEnd K.s (.returned v) s₂ L K.R.cells K.R.slots
theorem Run.st {K : KT} {Q : Option Value → Heap → Prop} {T T' : State} {g g' : JFrame} (st : ∀ t, Steps K.p.tables K.e K.below (T'.setTop g') t → Steps K.p.tables K.e K.below (T.setTop g) t) (k : Run K Q T' g') : Run K Q T g := by
  obtain ⟨s₂, v, L, h1, h2⟩ := k
  exact ⟨s₂, v, L, st _ h1, h2⟩
theorem Run.cast {K : KT} {Q : Option Value → Heap → Prop} {T : State} {g g' : JFrame} (q : g = g') (k : Run K Q T g') : Run K Q T g := q ▸ k
theorem Run.mono {K : KT} {Q Q' : Option Value → Heap → Prop} {T : State} {g : JFrame} (k : Run K Q T g) (q : ∀ v h, Q v h → Q' v h) : Run K Q' T g := by
  obtain ⟨s₂, v, L, h1, h2, h3, h4, h5⟩ := k
  exact ⟨s₂, v, L, h1, h2, h3, q _ _ h4, h5⟩
/-- the words of a sheet -/
def Tb (ws : List Jvm.Cond) (a0 : Array Value) (Z : State) : Prop := ∀ d ∈ ws, d.before a0 Z = true
theorem Tb.get {ws : List Jvm.Cond} {a0 : Array Value} {Z : State} (hw : Tb ws a0 Z) (i : Nat) {d : Jvm.Cond} (h : ws[i]? = some d) : d.before a0 Z = true := hw d (List.mem_of_getElem? h)
/-- an instruction, its length, the pc behind -/
def Dc (bytes : ByteArray) (pc : Nat) (i : Instr) (n pc' : Nat) : Prop := decode bytes pc = .ok (i, n) ∧ pc + n = pc'
/-- a branch: the pc behind, the pc that it goes to -/
def Db (bytes : ByteArray) (pc : Nat) (i : Instr) (o : Int) (pc' pt : Nat) : Prop := decode bytes pc = .ok (i, 3) ∧ pc + 3 = pc' ∧ 0 ≤ (pc : Int) + o ∧ ((pc : Int) + o).toNat = pt
theorem ne_new {a b : Addr} {h : Heap} (ea : a = h.size) (q : b < h.size) : a ≠ b := by subst ea; exact Nat.ne_of_gt q
theorem fr_new {h0 h : Heap} {a : Addr} (ea : a = h.size) (q : h0.size ≤ h.size) : h0.size ≤ a := ea ▸ q
theorem leb {a b : Nat} (h : Nat.ble a b = true) : a ≤ b := Nat.le_of_ble_eq_true h
theorem ltb {a b : Nat} (h : Nat.ble (a + 1) b = true) : a < b := Nat.le_of_ble_eq_true h
section Rules
variable {K : KT} {Q : Option Value → Heap → Prop} {T : State} {h : Heap} {cl sl : Nat} {y : MethodName} {bytes : ByteArray} {mx : Nat} {rt : Option FieldType} {R : Room} {pc pc' pt : Nat} {L : Array Slot} {S : List Value}
theorem r_top {v v' : Int32} (q : v = v') (k : Run K Q T (mkF K.m pc L (.int v' :: S))) : Run K Q T (mkF K.m pc L (.int v :: S)) := q ▸ k
theorem r_topL {v v' : Int64} (q : v = v') (k : Run K Q T (mkF K.m pc L (.long v' :: S))) : Run K Q T (mkF K.m pc L (.long v :: S)) := q ▸ k
theorem Sd.ge (X : Sd K T h cl sl) : K.n0 ≤ h.size := by obtain ⟨_, _, _, q, _⟩ := X; exact q
theorem r_iloadN {i : Fin 4} {v : Int32} (X : Sd K T h cl sl) (cx : Cx K y bytes mx rt R) (hd : Dc bytes pc (.iload_n i) 1 pc') (hl : L[i.val]? = some (.val (.int v))) (k : Run K Q T (mkF K.m pc' L (.int v :: S))) : Run K Q T (mkF K.m pc L (S)) := by
  obtain ⟨locs, X0, -⟩ := X; obtain ⟨hx, -, hby, -⟩ := cx; obtain ⟨d, rfl⟩ := hd
  exact Run.st (fun t q => XS.iloadN X0.here hx rfl (hb hby d) hl q) k
theorem r_iload {i : Nat} {v : Int32} (X : Sd K T h cl sl) (cx : Cx K y bytes mx rt R) (hd : Dc bytes pc (.iload i) 2 pc') (hl : L[i]? = some (.val (.int v))) (k : Run K Q T (mkF K.m pc' L (.int v :: S))) : Run K Q T (mkF K.m pc L (S)) := by
  obtain ⟨locs, X0, -⟩ := X; obtain ⟨hx, -, hby, -⟩ := cx; obtain ⟨d, rfl⟩ := hd
  exact Run.st (fun t q => XS.iload X0.here hx rfl (hb hby d) hl q) k
theorem r_lloadN {i : Fin 4} {v : Int64} (X : Sd K T h cl sl) (cx : Cx K y bytes mx rt R) (hd : Dc bytes pc (.lload_n i) 1 pc') (hl : L[i.val]? = some (.val (.long v))) (k : Run K Q T (mkF K.m pc' L (.long v :: S))) : Run K Q T (mkF K.m pc L (S)) := by
  obtain ⟨locs, X0, -⟩ := X; obtain ⟨hx, -, hby, -⟩ := cx; obtain ⟨d, rfl⟩ := hd
  exact Run.st (fun t q => XT.lloadN X0.here hx rfl (hb hby d) hl q) k
theorem r_lload {i : Nat} {v : Int64} (X : Sd K T h cl sl) (cx : Cx K y bytes mx rt R) (hd : Dc bytes pc (.lload i) 2 pc') (hl : L[i]? = some (.val (.long v))) (k : Run K Q T (mkF K.m pc' L (.long v :: S))) : Run K Q T (mkF K.m pc L (S)) := by
  obtain ⟨locs, X0, -⟩ := X; obtain ⟨hx, -, hby, -⟩ := cx; obtain ⟨d, rfl⟩ := hd
  exact Run.st (fun t q => XT.lload X0.here hx rfl (hb hby d) hl q) k
theorem r_aloadN {i : Fin 4} {v : Addr} (X : Sd K T h cl sl) (cx : Cx K y bytes mx rt R) (hd : Dc bytes pc (.aload_n i) 1 pc') (hl : L[i.val]? = some (.val (.ref v))) (k : Run K Q T (mkF K.m pc' L (.ref v :: S))) : Run K Q T (mkF K.m pc L (S)) := by
  obtain ⟨locs, X0, -⟩ := X; obtain ⟨hx, -, hby, -⟩ := cx; obtain ⟨d, rfl⟩ := hd
  exact Run.st (fun t q => XS.aloadN X0.here hx rfl (hb hby d) hl rfl q) k
theorem r_aload {i : Nat} {v : Addr} (X : Sd K T h cl sl) (cx : Cx K y bytes mx rt R) (hd : Dc bytes pc (.aload i) 2 pc') (hl : L[i]? = some (.val (.ref v))) (k : Run K Q T (mkF K.m pc' L (.ref v :: S))) : Run K Q T (mkF K.m pc L (S)) := by
  obtain ⟨locs, X0, -⟩ := X; obtain ⟨hx, -, hby, -⟩ := cx; obtain ⟨d, rfl⟩ := hd
  exact Run.st (fun t q => XS.aload X0.here hx rfl (hb hby d) hl rfl q) k
theorem r_iconst {i : Int} (v : Int32) (X : Sd K T h cl sl) (cx : Cx K y bytes mx rt R) (hd : Dc bytes pc (.iconst i) 1 pc') (hv : Int32.ofInt i = v) (k : Run K Q T (mkF K.m pc' L (.int v :: S))) : Run K Q T (mkF K.m pc L (S)) := by
  obtain ⟨locs, X0, -⟩ := X; obtain ⟨hx, -, hby, -⟩ := cx; obtain ⟨d, rfl⟩ := hd
  exact Run.st (fun t q => XT.iconstV X0.here hx rfl v (hb hby d) hv q) k
theorem r_bipush {i : Int} (v : Int32) (X : Sd K T h cl sl) (cx : Cx K y bytes mx rt R) (hd : Dc bytes pc (.bipush i) 2 pc') (hv : (Int8.ofInt i).toInt32 = v) (k : Run K Q T (mkF K.m pc' L (.int v :: S))) : Run K Q T (mkF K.m pc L (S)) := by
  obtain ⟨locs, X0, -⟩ := X; obtain ⟨hx, -, hby, -⟩ := cx; obtain ⟨d, rfl⟩ := hd
  exact Run.st (fun t q => XT.bipushV X0.here hx rfl v (hb hby d) hv q) k
theorem r_sipush {i : Int} (v : Int32) (X : Sd K T h cl sl) (cx : Cx K y bytes mx rt R) (hd : Dc bytes pc (.sipush i) 3 pc') (hv : (Int16.ofInt i).toInt32 = v) (k : Run K Q T (mkF K.m pc' L (.int v :: S))) : Run K Q T (mkF K.m pc L (S)) := by
  obtain ⟨locs, X0, -⟩ := X; obtain ⟨hx, -, hby, -⟩ := cx; obtain ⟨d, rfl⟩ := hd
  exact Run.st (fun t q => XT.sipushV X0.here hx rfl v (hb hby d) hv q) k
theorem r_lconst {i : Fin 2} (v : Int64) (X : Sd K T h cl sl) (cx : Cx K y bytes mx rt R) (hd : Dc bytes pc (.lconst i) 1 pc') (hv : Int64.ofNat i = v) (k : Run K Q T (mkF K.m pc' L (.long v :: S))) : Run K Q T (mkF K.m pc L (S)) := by
  obtain ⟨locs, X0, -⟩ := X; obtain ⟨hx, -, hby, -⟩ := cx; obtain ⟨d, rfl⟩ := hd
  exact Run.st (fun t q => XT.lconstV X0.here hx rfl v (hb hby d) hv q) k
theorem r_iadd {a b : Int32} (X : Sd K T h cl sl) (cx : Cx K y bytes mx rt R) (hd : Dc bytes pc .iadd 1 pc') (k : Run K Q T (mkF K.m pc' L (.int (a + b) :: S))) : Run K Q T (mkF K.m pc L (.int b :: .int a :: S)) := by
  obtain ⟨locs, X0, -⟩ := X; obtain ⟨hx, -, hby, -⟩ := cx; obtain ⟨d, rfl⟩ := hd
  exact Run.st (fun t q => XS.iadd X0.here hx rfl (hb hby d) rfl q) k
theorem r_isub {a b : Int32} (X : Sd K T h cl sl) (cx : Cx K y bytes mx rt R) (hd : Dc bytes pc .isub 1 pc') (k : Run K Q T (mkF K.m pc' L (.int (a - b) :: S))) : Run K Q T (mkF K.m pc L (.int b :: .int a :: S)) := by
  obtain ⟨locs, X0, -⟩ := X; obtain ⟨hx, -, hby, -⟩ := cx; obtain ⟨d, rfl⟩ := hd
  exact Run.st (fun t q => XS.isub X0.here hx rfl (hb hby d) rfl q) k
theorem r_imul {a b : Int32} (X : Sd K T h cl sl) (cx : Cx K y bytes mx rt R) (hd : Dc bytes pc .imul 1 pc') (k : Run K Q T (mkF K.m pc' L (.int (a * b) :: S))) : Run K Q T (mkF K.m pc L (.int b :: .int a :: S)) := by
  obtain ⟨locs, X0, -⟩ := X; obtain ⟨hx, -, hby, -⟩ := cx; obtain ⟨d, rfl⟩ := hd
  exact Run.st (fun t q => XS.imul X0.here hx rfl (hb hby d) rfl q) k
theorem r_iand {a b : Int32} (X : Sd K T h cl sl) (cx : Cx K y bytes mx rt R) (hd : Dc bytes pc .iand 1 pc') (k : Run K Q T (mkF K.m pc' L (.int (a &&& b) :: S))) : Run K Q T (mkF K.m pc L (.int b :: .int a :: S)) := by
  obtain ⟨locs, X0, -⟩ := X; obtain ⟨hx, -, hby, -⟩ := cx; obtain ⟨d, rfl⟩ := hd
  exact Run.st (fun t q => XS.iand X0.here hx rfl (hb hby d) rfl q) k
theorem r_ior {a b : Int32} (X : Sd K T h cl sl) (cx : Cx K y bytes mx rt R) (hd : Dc bytes pc .ior 1 pc') (k : Run K Q T (mkF K.m pc' L (.int (a ||| b) :: S))) : Run K Q T (mkF K.m pc L (.int b :: .int a :: S)) := by
  obtain ⟨locs, X0, -⟩ := X; obtain ⟨hx, -, hby, -⟩ := cx; obtain ⟨d, rfl⟩ := hd
  exact Run.st (fun t q => XT.ior X0.here hx rfl (hb hby d) rfl q) k
theorem r_ixor {a b : Int32} (X : Sd K T h cl sl) (cx : Cx K y bytes mx rt R) (hd : Dc bytes pc .ixor 1 pc') (k : Run K Q T (mkF K.m pc' L (.int (a ^^^ b) :: S))) : Run K Q T (mkF K.m pc L (.int b :: .int a :: S)) := by
  obtain ⟨locs, X0, -⟩ := X; obtain ⟨hx, -, hby, -⟩ := cx; obtain ⟨d, rfl⟩ := hd
  exact Run.st (fun t q => XT.ixor X0.here hx rfl (hb hby d) rfl q) k
theorem r_ishl {a b : Int32} (X : Sd K T h cl sl) (cx : Cx K y bytes mx rt R) (hd : Dc bytes pc .ishl 1 pc') (k : Run K Q T (mkF K.m pc' L (.int (a <<< (b &&& 31)) :: S))) : Run K Q T (mkF K.m pc L (.int b :: .int a :: S)) := by
  obtain ⟨locs, X0, -⟩ := X; obtain ⟨hx, -, hby, -⟩ := cx; obtain ⟨d, rfl⟩ := hd
  exact Run.st (fun t q => XT.ishl X0.here hx rfl (hb hby d) rfl q) k
theorem r_ishr {a b : Int32} (X : Sd K T h cl sl) (cx : Cx K y bytes mx rt R) (hd : Dc bytes pc .ishr 1 pc') (k : Run K Q T (mkF K.m pc' L (.int (a >>> (b &&& 31)) :: S))) : Run K Q T (mkF K.m pc L (.int b :: .int a :: S)) := by
  obtain ⟨locs, X0, -⟩ := X; obtain ⟨hx, -, hby, -⟩ := cx; obtain ⟨d, rfl⟩ := hd
  exact Run.st (fun t q => XT.ishr X0.here hx rfl (hb hby d) rfl q) k
theorem r_iushr {a b : Int32} (X : Sd K T h cl sl) (cx : Cx K y bytes mx rt R) (hd : Dc bytes pc .iushr 1 pc') (k : Run K Q T (mkF K.m pc' L (.int (XT.ushr a b) :: S))) : Run K Q T (mkF K.m pc L (.int b :: .int a :: S)) := by
  obtain ⟨locs, X0, -⟩ := X; obtain ⟨hx, -, hby, -⟩ := cx; obtain ⟨d, rfl⟩ := hd
  exact Run.st (fun t q => XT.iushr X0.here hx rfl (hb hby d) rfl q) k
theorem r_idiv {a b : Int32} (X : Sd K T h cl sl) (cx : Cx K y bytes mx rt R) (hd : Dc bytes pc .idiv 1 pc') (hne : b ≠ 0) (k : Run K Q T (mkF K.m pc' L (.int (a / b) :: S))) : Run K Q T (mkF K.m pc L (.int b :: .int a :: S)) := by
  obtain ⟨locs, X0, -⟩ := X; obtain ⟨hx, -, hby, -⟩ := cx; obtain ⟨d, rfl⟩ := hd
  exact Run.st (fun t q => XS.idiv X0.here hx rfl (hb hby d) rfl hne q) k
theorem r_irem {a b : Int32} (X : Sd K T h cl sl) (cx : Cx K y bytes mx rt R) (hd : Dc bytes pc .irem 1 pc') (hne : b ≠ 0) (k : Run K Q T (mkF K.m pc' L (.int (a - (a / b) * b) :: S))) : Run K Q T (mkF K.m pc L (.int b :: .int a :: S)) := by
  obtain ⟨locs, X0, -⟩ := X; obtain ⟨hx, -, hby, -⟩ := cx; obtain ⟨d, rfl⟩ := hd
  exact Run.st (fun t q => XS.irem X0.here hx rfl (hb hby d) rfl hne q) k
theorem r_ladd {a b : Int64} (X : Sd K T h cl sl) (cx : Cx K y bytes mx rt R) (hd : Dc bytes pc .ladd 1 pc') (k : Run K Q T (mkF K.m pc' L (.long (a + b) :: S))) : Run K Q T (mkF K.m pc L (.long b :: .long a :: S)) := by
  obtain ⟨locs, X0, -⟩ := X; obtain ⟨hx, -, hby, -⟩ := cx; obtain ⟨d, rfl⟩ := hd
  exact Run.st (fun t q => XT.ladd X0.here hx rfl (hb hby d) rfl q) k
theorem r_lsub {a b : Int64} (X : Sd K T h cl sl) (cx : Cx K y bytes mx rt R) (hd : Dc bytes pc .lsub 1 pc') (k : Run K Q T (mkF K.m pc' L (.long (a - b) :: S))) : Run K Q T (mkF K.m pc L (.long b :: .long a :: S)) := by
  obtain ⟨locs, X0, -⟩ := X; obtain ⟨hx, -, hby, -⟩ := cx; obtain ⟨d, rfl⟩ := hd
  exact Run.st (fun t q => XT.lsub X0.here hx rfl (hb hby d) rfl q) k
theorem r_lmul {a b : Int64} (X : Sd K T h cl sl) (cx : Cx K y bytes mx rt R) (hd : Dc bytes pc .lmul 1 pc') (k : Run K Q T (mkF K.m pc' L (.long (a * b) :: S))) : Run K Q T (mkF K.m pc L (.long b :: .long a :: S)) := by
  obtain ⟨locs, X0, -⟩ := X; obtain ⟨hx, -, hby, -⟩ := cx; obtain ⟨d, rfl⟩ := hd
  exact Run.st (fun t q => XT.lmul X0.here hx rfl (hb hby d) rfl q) k
theorem r_land {a b : Int64} (X : Sd K T h cl sl) (cx : Cx K y bytes mx rt R) (hd : Dc bytes pc .land 1 pc') (k : Run K Q T (mkF K.m pc' L (.long (a &&& b) :: S))) : Run K Q T (mkF K.m pc L (.long b :: .long a :: S)) := by
  obtain ⟨locs, X0, -⟩ := X; obtain ⟨hx, -, hby, -⟩ := cx; obtain ⟨d, rfl⟩ := hd
  exact Run.st (fun t q => XT.land X0.here hx rfl (hb hby d) rfl q) k
theorem r_lor {a b : Int64} (X : Sd K T h cl sl) (cx : Cx K y bytes mx rt R) (hd : Dc bytes pc .lor 1 pc') (k : Run K Q T (mkF K.m pc' L (.long (a ||| b) :: S))) : Run K Q T (mkF K.m pc L (.long b :: .long a :: S)) := by
  obtain ⟨locs, X0, -⟩ := X; obtain ⟨hx, -, hby, -⟩ := cx; obtain ⟨d, rfl⟩ := hd
  exact Run.st (fun t q => XT.lor X0.here hx rfl (hb hby d) rfl q) k
theorem r_lxor {a b : Int64} (X : Sd K T h cl sl) (cx : Cx K y bytes mx rt R) (hd : Dc bytes pc .lxor 1 pc') (k : Run K Q T (mkF K.m pc' L (.long (a ^^^ b) :: S))) : Run K Q T (mkF K.m pc L (.long b :: .long a :: S)) := by
  obtain ⟨locs, X0, -⟩ := X; obtain ⟨hx, -, hby, -⟩ := cx; obtain ⟨d, rfl⟩ := hd
  exact Run.st (fun t q => XT.lxor X0.here hx rfl (hb hby d) rfl q) k
theorem r_ldiv {a b : Int64} (X : Sd K T h cl sl) (cx : Cx K y bytes mx rt R) (hd : Dc bytes pc .ldiv 1 pc') (hne : b ≠ 0) (k : Run K Q T (mkF K.m pc' L (.long (a / b) :: S))) : Run K Q T (mkF K.m pc L (.long b :: .long a :: S)) := by
  obtain ⟨locs, X0, -⟩ := X; obtain ⟨hx, -, hby, -⟩ := cx; obtain ⟨d, rfl⟩ := hd
  exact Run.st (fun t q => XT.ldiv X0.here hx rfl (hb hby d) rfl hne q) k
theorem r_lrem {a b : Int64} (X : Sd K T h cl sl) (cx : Cx K y bytes mx rt R) (hd : Dc bytes pc .lrem 1 pc') (hne : b ≠ 0) (k : Run K Q T (mkF K.m pc' L (.long (a - (a / b) * b) :: S))) : Run K Q T (mkF K.m pc L (.long b :: .long a :: S)) := by
  obtain ⟨locs, X0, -⟩ := X; obtain ⟨hx, -, hby, -⟩ := cx; obtain ⟨d, rfl⟩ := hd
  exact Run.st (fun t q => XT.lrem X0.here hx rfl (hb hby d) rfl hne q) k
theorem r_lshl {a : Int64} {b : Int32} (X : Sd K T h cl sl) (cx : Cx K y bytes mx rt R) (hd : Dc bytes pc .lshl 1 pc') (k : Run K Q T (mkF K.m pc' L (.long (a <<< (b.toInt64 &&& 63)) :: S))) : Run K Q T (mkF K.m pc L (.int b :: .long a :: S)) := by
  obtain ⟨locs, X0, -⟩ := X; obtain ⟨hx, -, hby, -⟩ := cx; obtain ⟨d, rfl⟩ := hd
  exact Run.st (fun t q => XT.lshl X0.here hx rfl (hb hby d) rfl q) k
theorem r_lshr {a : Int64} {b : Int32} (X : Sd K T h cl sl) (cx : Cx K y bytes mx rt R) (hd : Dc bytes pc .lshr 1 pc') (k : Run K Q T (mkF K.m pc' L (.long (a >>> (b.toInt64 &&& 63)) :: S))) : Run K Q T (mkF K.m pc L (.int b :: .long a :: S)) := by
  obtain ⟨locs, X0, -⟩ := X; obtain ⟨hx, -, hby, -⟩ := cx; obtain ⟨d, rfl⟩ := hd
  exact Run.st (fun t q => XT.lshr X0.here hx rfl (hb hby d) rfl q) k
theorem r_lushr {a : Int64} {b : Int32} (X : Sd K T h cl sl) (cx : Cx K y bytes mx rt R) (hd : Dc bytes pc .lushr 1 pc') (k : Run K Q T (mkF K.m pc' L (.long (XT.ushrL a b) :: S))) : Run K Q T (mkF K.m pc L (.int b :: .long a :: S)) := by
  obtain ⟨locs, X0, -⟩ := X; obtain ⟨hx, -, hby, -⟩ := cx; obtain ⟨d, rfl⟩ := hd
  exact Run.st (fun t q => XT.lushr X0.here hx rfl (hb hby d) rfl q) k
theorem r_ineg {a : Int32} (X : Sd K T h cl sl) (cx : Cx K y bytes mx rt R) (hd : Dc bytes pc .ineg 1 pc') (k : Run K Q T (mkF K.m pc' L (.int (-a) :: S))) : Run K Q T (mkF K.m pc L (.int a :: S)) := by
  obtain ⟨locs, X0, -⟩ := X; obtain ⟨hx, -, hby, -⟩ := cx; obtain ⟨d, rfl⟩ := hd
  exact Run.st (fun t q => XS.ineg X0.here hx rfl (hb hby d) rfl q) k
theorem r_i2l {a : Int32} (X : Sd K T h cl sl) (cx : Cx K y bytes mx rt R) (hd : Dc bytes pc .i2l 1 pc') (k : Run K Q T (mkF K.m pc' L (.long a.toInt64 :: S))) : Run K Q T (mkF K.m pc L (.int a :: S)) := by
  obtain ⟨locs, X0, -⟩ := X; obtain ⟨hx, -, hby, -⟩ := cx; obtain ⟨d, rfl⟩ := hd
  exact Run.st (fun t q => XT.i2l X0.here hx rfl (hb hby d) rfl q) k
theorem r_l2i {a : Int64} (X : Sd K T h cl sl) (cx : Cx K y bytes mx rt R) (hd : Dc bytes pc .l2i 1 pc') (k : Run K Q T (mkF K.m pc' L (.int a.toInt32 :: S))) : Run K Q T (mkF K.m pc L (.long a :: S)) := by
  obtain ⟨locs, X0, -⟩ := X; obtain ⟨hx, -, hby, -⟩ := cx; obtain ⟨d, rfl⟩ := hd
  exact Run.st (fun t q => XT.l2i X0.here hx rfl (hb hby d) rfl q) k
theorem r_i2b {a : Int32} (X : Sd K T h cl sl) (cx : Cx K y bytes mx rt R) (hd : Dc bytes pc .i2b 1 pc') (k : Run K Q T (mkF K.m pc' L (.int a.toInt8.toInt32 :: S))) : Run K Q T (mkF K.m pc L (.int a :: S)) := by
  obtain ⟨locs, X0, -⟩ := X; obtain ⟨hx, -, hby, -⟩ := cx; obtain ⟨d, rfl⟩ := hd
  exact Run.st (fun t q => XT.i2b X0.here hx rfl (hb hby d) rfl q) k
theorem r_i2s {a : Int32} (X : Sd K T h cl sl) (cx : Cx K y bytes mx rt R) (hd : Dc bytes pc .i2s 1 pc') (k : Run K Q T (mkF K.m pc' L (.int a.toInt16.toInt32 :: S))) : Run K Q T (mkF K.m pc L (.int a :: S)) := by
  obtain ⟨locs, X0, -⟩ := X; obtain ⟨hx, -, hby, -⟩ := cx; obtain ⟨d, rfl⟩ := hd
  exact Run.st (fun t q => XT.i2s X0.here hx rfl (hb hby d) rfl q) k
theorem r_lcmp {a b : Int64} (X : Sd K T h cl sl) (cx : Cx K y bytes mx rt R) (hd : Dc bytes pc .lcmp 1 pc') (k : Run K Q T (mkF K.m pc' L (.int (XT.cmpL a b) :: S))) : Run K Q T (mkF K.m pc L (.long b :: .long a :: S)) := by
  obtain ⟨locs, X0, -⟩ := X; obtain ⟨hx, -, hby, -⟩ := cx; obtain ⟨d, rfl⟩ := hd
  exact Run.st (fun t q => XT.lcmp X0.here hx rfl (hb hby d) rfl q) k
theorem r_dup {v : Value} (X : Sd K T h cl sl) (cx : Cx K y bytes mx rt R) (hd : Dc bytes pc .dup 1 pc') (hc : v.category = 1) (k : Run K Q T (mkF K.m pc' L (v :: v :: S))) : Run K Q T (mkF K.m pc L (v :: S)) := by
  obtain ⟨locs, X0, -⟩ := X; obtain ⟨hx, -, hby, -⟩ := cx; obtain ⟨d, rfl⟩ := hd
  exact Run.st (fun t q => XS.dup X0.here hx rfl (hb hby d) rfl hc q) k
theorem r_pop {v : Value} (X : Sd K T h cl sl) (cx : Cx K y bytes mx rt R) (hd : Dc bytes pc .pop 1 pc') (hc : v.category = 1) (k : Run K Q T (mkF K.m pc' L (S))) : Run K Q T (mkF K.m pc L (v :: S)) := by
  obtain ⟨locs, X0, -⟩ := X; obtain ⟨hx, -, hby, -⟩ := cx; obtain ⟨d, rfl⟩ := hd
  exact Run.st (fun t q => XT.pop X0.here hx rfl (hb hby d) rfl hc q) k
theorem r_dup2 {v w : Value} (X : Sd K T h cl sl) (cx : Cx K y bytes mx rt R) (hd : Dc bytes pc .dup2 1 pc') (hc : v.category = 1) (hc2 : w.category = 1) (k : Run K Q T (mkF K.m pc' L (v :: w :: v :: w :: S))) : Run K Q T (mkF K.m pc L (v :: w :: S)) := by
  obtain ⟨locs, X0, -⟩ := X; obtain ⟨hx, -, hby, -⟩ := cx; obtain ⟨d, rfl⟩ := hd
  exact Run.st (fun t q => XT.dup2 X0.here hx rfl (hb hby d) rfl hc hc2 q) k
theorem r_dup_x1 {v w : Value} (X : Sd K T h cl sl) (cx : Cx K y bytes mx rt R) (hd : Dc bytes pc .dup_x1 1 pc') (hc : v.category = 1) (hc2 : w.category = 1) (k : Run K Q T (mkF K.m pc' L (v :: w :: v :: S))) : Run K Q T (mkF K.m pc L (v :: w :: S)) := by
  obtain ⟨locs, X0, -⟩ := X; obtain ⟨hx, -, hby, -⟩ := cx; obtain ⟨d, rfl⟩ := hd
  exact Run.st (fun t q => XT.dupX1 X0.here hx rfl (hb hby d) rfl hc hc2 q) k
theorem r_istoreN {i : Fin 4} {x : Int32} (L' : Int32 → Array Slot) (X : Sd K T h cl sl) (cx : Cx K y bytes mx rt R) (hd : Dc bytes pc (.istore_n i) 1 pc') (hl : ∀ v, storeLocals L i.val (.int v) = some (L' v)) (k : ∀ v, v = x → Run K Q T (mkF K.m pc' (L' v) S)) : Run K Q T (mkF K.m pc L (.int x :: S)) := by
  obtain ⟨locs, X0, -⟩ := X; obtain ⟨hx, -, hby, -⟩ := cx; obtain ⟨d, rfl⟩ := hd
  exact Run.st (fun t q => XS.istoreN X0.here hx rfl (hb hby d) rfl (hl x) q) (k x rfl)
theorem r_istore {i : Nat} {x : Int32} (L' : Int32 → Array Slot) (X : Sd K T h cl sl) (cx : Cx K y bytes mx rt R) (hd : Dc bytes pc (.istore i) 2 pc') (hl : ∀ v, storeLocals L i (.int v) = some (L' v)) (k : ∀ v, v = x → Run K Q T (mkF K.m pc' (L' v) S)) : Run K Q T (mkF K.m pc L (.int x :: S)) := by
  obtain ⟨locs, X0, -⟩ := X; obtain ⟨hx, -, hby, -⟩ := cx; obtain ⟨d, rfl⟩ := hd
  exact Run.st (fun t q => XS.istore X0.here hx rfl (hb hby d) rfl (hl x) q) (k x rfl)
theorem r_lstoreN {i : Fin 4} {x : Int64} (L' : Int64 → Array Slot) (X : Sd K T h cl sl) (cx : Cx K y bytes mx rt R) (hd : Dc bytes pc (.lstore_n i) 1 pc') (hl : ∀ v, storeLocals L i.val (.long v) = some (L' v)) (k : ∀ v, v = x → Run K Q T (mkF K.m pc' (L' v) S)) : Run K Q T (mkF K.m pc L (.long x :: S)) := by
  obtain ⟨locs, X0, -⟩ := X; obtain ⟨hx, -, hby, -⟩ := cx; obtain ⟨d, rfl⟩ := hd
  exact Run.st (fun t q => XT.lstoreN X0.here hx rfl (hb hby d) rfl (hl x) q) (k x rfl)
theorem r_lstore {i : Nat} {x : Int64} (L' : Int64 → Array Slot) (X : Sd K T h cl sl) (cx : Cx K y bytes mx rt R) (hd : Dc bytes pc (.lstore i) 2 pc') (hl : ∀ v, storeLocals L i (.long v) = some (L' v)) (k : ∀ v, v = x → Run K Q T (mkF K.m pc' (L' v) S)) : Run K Q T (mkF K.m pc L (.long x :: S)) := by
  obtain ⟨locs, X0, -⟩ := X; obtain ⟨hx, -, hby, -⟩ := cx; obtain ⟨d, rfl⟩ := hd
  exact Run.st (fun t q => XT.lstore X0.here hx rfl (hb hby d) rfl (hl x) q) (k x rfl)
theorem r_astoreN {i : Fin 4} {x : Addr} (L' : Array Slot) (X : Sd K T h cl sl) (cx : Cx K y bytes mx rt R) (hd : Dc bytes pc (.astore_n i) 1 pc') (hl : storeLocals L i.val (.ref x) = some L') (k : Run K Q T (mkF K.m pc' L' S)) : Run K Q T (mkF K.m pc L (.ref x :: S)) := by
  obtain ⟨locs, X0, -⟩ := X; obtain ⟨hx, -, hby, -⟩ := cx; obtain ⟨d, rfl⟩ := hd
  exact Run.st (fun t q => XS.astoreN X0.here hx rfl (hb hby d) rfl rfl hl q) k
theorem r_astore {i : Nat} {x : Addr} (L' : Array Slot) (X : Sd K T h cl sl) (cx : Cx K y bytes mx rt R) (hd : Dc bytes pc (.astore i) 2 pc') (hl : storeLocals L i (.ref x) = some L') (k : Run K Q T (mkF K.m pc' L' S)) : Run K Q T (mkF K.m pc L (.ref x :: S)) := by
  obtain ⟨locs, X0, -⟩ := X; obtain ⟨hx, -, hby, -⟩ := cx; obtain ⟨d, rfl⟩ := hd
  exact Run.st (fun t q => XS.astore X0.here hx rfl (hb hby d) rfl rfl hl q) k
theorem r_iinc {i : Nat} {cst : Int} {x : Int32} (w : Int32) (L' : Int32 → Array Slot) (X : Sd K T h cl sl) (cx : Cx K y bytes mx rt R) (hd : Dc bytes pc (.iinc i cst) 3 pc') (hv : Int32.ofInt cst = w) (ho : L[i]? = some (.val (.int x))) (hl : ∀ v, storeLocals L i (.int v) = some (L' v)) (k : ∀ v, v = x + w → Run K Q T (mkF K.m pc' (L' v) S)) : Run K Q T (mkF K.m pc L S) := by
  obtain ⟨locs, X0, -⟩ := X; obtain ⟨hx, -, hby, -⟩ := cx; obtain ⟨d, rfl⟩ := hd
  exact Run.st (fun t q => XT.iincV X0.here hx rfl w (hb hby d) hv ho (hl _) q) (k _ rfl)
theorem r_goto {o : Int} (X : Sd K T h cl sl) (cx : Cx K y bytes mx rt R) (hd : Db bytes pc (.goto o) o pc' pt) (k : Run K Q T (mkF K.m pt L S)) : Run K Q T (mkF K.m pc L S) := by
  obtain ⟨locs, X0, -⟩ := X; obtain ⟨hx, -, hby, -⟩ := cx; obtain ⟨d, -, ho, hp⟩ := hd
  exact Run.st (fun t q => XS.goto X0.here hx rfl (pc0 := pc) rfl (hb hby d) ho hp q) k
theorem r_icmpeq {o : Int} {a b : Int32} (X : Sd K T h cl sl) (cx : Cx K y bytes mx rt R) (hd : Db bytes pc (.if_icmp .eq o) o pc' pt) (k1 : a = b → Run K Q T (mkF K.m pt L S)) (k2 : ¬ a = b → Run K Q T (mkF K.m pc' L S)) : Run K Q T (mkF K.m pc L (.int b :: .int a :: S)) := by
  obtain ⟨locs, X0, -⟩ := X; obtain ⟨hx, -, hby, -⟩ := cx; obtain ⟨d, rfl, ho, hp⟩ := hd
  by_cases q : a = b
  · exact Run.st (fun t u => XS.icmpYes X0.here hx rfl (pc0 := pc) rfl (hb hby d) rfl (XT.ii_eq_t q) ho hp u) (k1 q)
  · exact Run.st (fun t u => XS.icmpNo X0.here hx rfl (hb hby d) rfl (XT.ii_eq_f q) u) (k2 q)
theorem r_ifeq {o : Int} {a : Int32} (X : Sd K T h cl sl) (cx : Cx K y bytes mx rt R) (hd : Db bytes pc (.ifCond .eq o) o pc' pt) (k1 : a = 0 → Run K Q T (mkF K.m pt L S)) (k2 : ¬ a = 0 → Run K Q T (mkF K.m pc' L S)) : Run K Q T (mkF K.m pc L (.int a :: S)) := by
  obtain ⟨locs, X0, -⟩ := X; obtain ⟨hx, -, hby, -⟩ := cx; obtain ⟨d, rfl, ho, hp⟩ := hd
  by_cases q : a = 0
  · exact Run.st (fun t u => XS.ifYes X0.here hx rfl (pc0 := pc) rfl (hb hby d) rfl (XT.i0_eq_t q) ho hp u) (k1 q)
  · exact Run.st (fun t u => XS.ifNo X0.here hx rfl (hb hby d) rfl (XT.i0_eq_f q) u) (k2 q)
theorem r_lcmpeq {o : Int} {a b : Int64} (X : Sd K T h cl sl) (cx : Cx K y bytes mx rt R) (hd : Db bytes pc (.ifCond .eq o) o pc' pt) (k1 : a = b → Run K Q T (mkF K.m pt L S)) (k2 : ¬ a = b → Run K Q T (mkF K.m pc' L S)) : Run K Q T (mkF K.m pc L (.int (XT.cmpL a b) :: S)) := by
  obtain ⟨locs, X0, -⟩ := X; obtain ⟨hx, -, hby, -⟩ := cx; obtain ⟨d, rfl, ho, hp⟩ := hd
  by_cases q : a = b
  · exact Run.st (fun t u => XS.ifYes X0.here hx rfl (pc0 := pc) rfl (hb hby d) rfl (XT.ll_eq_t q) ho hp u) (k1 q)
  · exact Run.st (fun t u => XS.ifNo X0.here hx rfl (hb hby d) rfl (XT.ll_eq_f q) u) (k2 q)
theorem r_icmpne {o : Int} {a b : Int32} (X : Sd K T h cl sl) (cx : Cx K y bytes mx rt R) (hd : Db bytes pc (.if_icmp .ne o) o pc' pt) (k1 : ¬ a = b → Run K Q T (mkF K.m pt L S)) (k2 : a = b → Run K Q T (mkF K.m pc' L S)) : Run K Q T (mkF K.m pc L (.int b :: .int a :: S)) := by
  obtain ⟨locs, X0, -⟩ := X; obtain ⟨hx, -, hby, -⟩ := cx; obtain ⟨d, rfl, ho, hp⟩ := hd
  by_cases q : a = b
  · exact Run.st (fun t u => XS.icmpNo X0.here hx rfl (hb hby d) rfl (XT.ii_ne_f q) u) (k2 q)
  · exact Run.st (fun t u => XS.icmpYes X0.here hx rfl (pc0 := pc) rfl (hb hby d) rfl (XT.ii_ne_t q) ho hp u) (k1 q)
theorem r_ifne {o : Int} {a : Int32} (X : Sd K T h cl sl) (cx : Cx K y bytes mx rt R) (hd : Db bytes pc (.ifCond .ne o) o pc' pt) (k1 : ¬ a = 0 → Run K Q T (mkF K.m pt L S)) (k2 : a = 0 → Run K Q T (mkF K.m pc' L S)) : Run K Q T (mkF K.m pc L (.int a :: S)) := by
  obtain ⟨locs, X0, -⟩ := X; obtain ⟨hx, -, hby, -⟩ := cx; obtain ⟨d, rfl, ho, hp⟩ := hd
  by_cases q : a = 0
  · exact Run.st (fun t u => XS.ifNo X0.here hx rfl (hb hby d) rfl (XT.i0_ne_f q) u) (k2 q)
  · exact Run.st (fun t u => XS.ifYes X0.here hx rfl (pc0 := pc) rfl (hb hby d) rfl (XT.i0_ne_t q) ho hp u) (k1 q)
theorem r_lcmpne {o : Int} {a b : Int64} (X : Sd K T h cl sl) (cx : Cx K y bytes mx rt R) (hd : Db bytes pc (.ifCond .ne o) o pc' pt) (k1 : ¬ a = b → Run K Q T (mkF K.m pt L S)) (k2 : a = b → Run K Q T (mkF K.m pc' L S)) : Run K Q T (mkF K.m pc L (.int (XT.cmpL a b) :: S)) := by
  obtain ⟨locs, X0, -⟩ := X; obtain ⟨hx, -, hby, -⟩ := cx; obtain ⟨d, rfl, ho, hp⟩ := hd
  by_cases q : a = b
  · exact Run.st (fun t u => XS.ifNo X0.here hx rfl (hb hby d) rfl (XT.ll_ne_f q) u) (k2 q)
  · exact Run.st (fun t u => XS.ifYes X0.here hx rfl (pc0 := pc) rfl (hb hby d) rfl (XT.ll_ne_t q) ho hp u) (k1 q)
theorem r_icmplt {o : Int} {a b : Int32} (X : Sd K T h cl sl) (cx : Cx K y bytes mx rt R) (hd : Db bytes pc (.if_icmp .lt o) o pc' pt) (k1 : a < b → Run K Q T (mkF K.m pt L S)) (k2 : ¬ a < b → Run K Q T (mkF K.m pc' L S)) : Run K Q T (mkF K.m pc L (.int b :: .int a :: S)) := by
  obtain ⟨locs, X0, -⟩ := X; obtain ⟨hx, -, hby, -⟩ := cx; obtain ⟨d, rfl, ho, hp⟩ := hd
  by_cases q : a < b
  · exact Run.st (fun t u => XS.icmpYes X0.here hx rfl (pc0 := pc) rfl (hb hby d) rfl (XT.ii_lt_t q) ho hp u) (k1 q)
  · exact Run.st (fun t u => XS.icmpNo X0.here hx rfl (hb hby d) rfl (XT.ii_lt_f q) u) (k2 q)
theorem r_iflt {o : Int} {a : Int32} (X : Sd K T h cl sl) (cx : Cx K y bytes mx rt R) (hd : Db bytes pc (.ifCond .lt o) o pc' pt) (k1 : a < 0 → Run K Q T (mkF K.m pt L S)) (k2 : ¬ a < 0 → Run K Q T (mkF K.m pc' L S)) : Run K Q T (mkF K.m pc L (.int a :: S)) := by
  obtain ⟨locs, X0, -⟩ := X; obtain ⟨hx, -, hby, -⟩ := cx; obtain ⟨d, rfl, ho, hp⟩ := hd
  by_cases q : a < 0
  · exact Run.st (fun t u => XS.ifYes X0.here hx rfl (pc0 := pc) rfl (hb hby d) rfl (XT.i0_lt_t q) ho hp u) (k1 q)
  · exact Run.st (fun t u => XS.ifNo X0.here hx rfl (hb hby d) rfl (XT.i0_lt_f q) u) (k2 q)
theorem r_lcmplt {o : Int} {a b : Int64} (X : Sd K T h cl sl) (cx : Cx K y bytes mx rt R) (hd : Db bytes pc (.ifCond .lt o) o pc' pt) (k1 : a < b → Run K Q T (mkF K.m pt L S)) (k2 : ¬ a < b → Run K Q T (mkF K.m pc' L S)) : Run K Q T (mkF K.m pc L (.int (XT.cmpL a b) :: S)) := by
  obtain ⟨locs, X0, -⟩ := X; obtain ⟨hx, -, hby, -⟩ := cx; obtain ⟨d, rfl, ho, hp⟩ := hd
  by_cases q : a < b
  · exact Run.st (fun t u => XS.ifYes X0.here hx rfl (pc0 := pc) rfl (hb hby d) rfl (XT.ll_lt_t q) ho hp u) (k1 q)
  · exact Run.st (fun t u => XS.ifNo X0.here hx rfl (hb hby d) rfl (XT.ll_lt_f q) u) (k2 q)
theorem r_icmpge {o : Int} {a b : Int32} (X : Sd K T h cl sl) (cx : Cx K y bytes mx rt R) (hd : Db bytes pc (.if_icmp .ge o) o pc' pt) (k1 : ¬ a < b → Run K Q T (mkF K.m pt L S)) (k2 : a < b → Run K Q T (mkF K.m pc' L S)) : Run K Q T (mkF K.m pc L (.int b :: .int a :: S)) := by
  obtain ⟨locs, X0, -⟩ := X; obtain ⟨hx, -, hby, -⟩ := cx; obtain ⟨d, rfl, ho, hp⟩ := hd
  by_cases q : a < b
  · exact Run.st (fun t u => XS.icmpNo X0.here hx rfl (hb hby d) rfl (XT.ii_ge_f q) u) (k2 q)
  · exact Run.st (fun t u => XS.icmpYes X0.here hx rfl (pc0 := pc) rfl (hb hby d) rfl (XT.ii_ge_t q) ho hp u) (k1 q)
theorem r_ifge {o : Int} {a : Int32} (X : Sd K T h cl sl) (cx : Cx K y bytes mx rt R) (hd : Db bytes pc (.ifCond .ge o) o pc' pt) (k1 : ¬ a < 0 → Run K Q T (mkF K.m pt L S)) (k2 : a < 0 → Run K Q T (mkF K.m pc' L S)) : Run K Q T (mkF K.m pc L (.int a :: S)) := by
  obtain ⟨locs, X0, -⟩ := X; obtain ⟨hx, -, hby, -⟩ := cx; obtain ⟨d, rfl, ho, hp⟩ := hd
  by_cases q : a < 0
  · exact Run.st (fun t u => XS.ifNo X0.here hx rfl (hb hby d) rfl (XT.i0_ge_f q) u) (k2 q)
  · exact Run.st (fun t u => XS.ifYes X0.here hx rfl (pc0 := pc) rfl (hb hby d) rfl (XT.i0_ge_t q) ho hp u) (k1 q)
theorem r_lcmpge {o : Int} {a b : Int64} (X : Sd K T h cl sl) (cx : Cx K y bytes mx rt R) (hd : Db bytes pc (.ifCond .ge o) o pc' pt) (k1 : ¬ a < b → Run K Q T (mkF K.m pt L S)) (k2 : a < b → Run K Q T (mkF K.m pc' L S)) : Run K Q T (mkF K.m pc L (.int (XT.cmpL a b) :: S)) := by
  obtain ⟨locs, X0, -⟩ := X; obtain ⟨hx, -, hby, -⟩ := cx; obtain ⟨d, rfl, ho, hp⟩ := hd
  by_cases q : a < b
  · exact Run.st (fun t u => XS.ifNo X0.here hx rfl (hb hby d) rfl (XT.ll_ge_f q) u) (k2 q)
  · exact Run.st (fun t u => XS.ifYes X0.here hx rfl (pc0 := pc) rfl (hb hby d) rfl (XT.ll_ge_t q) ho hp u) (k1 q)
theorem r_icmpgt {o : Int} {a b : Int32} (X : Sd K T h cl sl) (cx : Cx K y bytes mx rt R) (hd : Db bytes pc (.if_icmp .gt o) o pc' pt) (k1 : b < a → Run K Q T (mkF K.m pt L S)) (k2 : ¬ b < a → Run K Q T (mkF K.m pc' L S)) : Run K Q T (mkF K.m pc L (.int b :: .int a :: S)) := by
  obtain ⟨locs, X0, -⟩ := X; obtain ⟨hx, -, hby, -⟩ := cx; obtain ⟨d, rfl, ho, hp⟩ := hd
  by_cases q : b < a
  · exact Run.st (fun t u => XS.icmpYes X0.here hx rfl (pc0 := pc) rfl (hb hby d) rfl (XT.ii_gt_t q) ho hp u) (k1 q)
  · exact Run.st (fun t u => XS.icmpNo X0.here hx rfl (hb hby d) rfl (XT.ii_gt_f q) u) (k2 q)
theorem r_ifgt {o : Int} {a : Int32} (X : Sd K T h cl sl) (cx : Cx K y bytes mx rt R) (hd : Db bytes pc (.ifCond .gt o) o pc' pt) (k1 : 0 < a → Run K Q T (mkF K.m pt L S)) (k2 : ¬ 0 < a → Run K Q T (mkF K.m pc' L S)) : Run K Q T (mkF K.m pc L (.int a :: S)) := by
  obtain ⟨locs, X0, -⟩ := X; obtain ⟨hx, -, hby, -⟩ := cx; obtain ⟨d, rfl, ho, hp⟩ := hd
  by_cases q : 0 < a
  · exact Run.st (fun t u => XS.ifYes X0.here hx rfl (pc0 := pc) rfl (hb hby d) rfl (XT.i0_gt_t q) ho hp u) (k1 q)
  · exact Run.st (fun t u => XS.ifNo X0.here hx rfl (hb hby d) rfl (XT.i0_gt_f q) u) (k2 q)
theorem r_lcmpgt {o : Int} {a b : Int64} (X : Sd K T h cl sl) (cx : Cx K y bytes mx rt R) (hd : Db bytes pc (.ifCond .gt o) o pc' pt) (k1 : b < a → Run K Q T (mkF K.m pt L S)) (k2 : ¬ b < a → Run K Q T (mkF K.m pc' L S)) : Run K Q T (mkF K.m pc L (.int (XT.cmpL a b) :: S)) := by
  obtain ⟨locs, X0, -⟩ := X; obtain ⟨hx, -, hby, -⟩ := cx; obtain ⟨d, rfl, ho, hp⟩ := hd
  by_cases q : b < a
  · exact Run.st (fun t u => XS.ifYes X0.here hx rfl (pc0 := pc) rfl (hb hby d) rfl (XT.ll_gt_t q) ho hp u) (k1 q)
  · exact Run.st (fun t u => XS.ifNo X0.here hx rfl (hb hby d) rfl (XT.ll_gt_f q) u) (k2 q)
theorem r_icmple {o : Int} {a b : Int32} (X : Sd K T h cl sl) (cx : Cx K y bytes mx rt R) (hd : Db bytes pc (.if_icmp .le o) o pc' pt) (k1 : ¬ b < a → Run K Q T (mkF K.m pt L S)) (k2 : b < a → Run K Q T (mkF K.m pc' L S)) : Run K Q T (mkF K.m pc L (.int b :: .int a :: S)) := by
  obtain ⟨locs, X0, -⟩ := X; obtain ⟨hx, -, hby, -⟩ := cx; obtain ⟨d, rfl, ho, hp⟩ := hd
  by_cases q : b < a
  · exact Run.st (fun t u => XS.icmpNo X0.here hx rfl (hb hby d) rfl (XT.ii_le_f q) u) (k2 q)
  · exact Run.st (fun t u => XS.icmpYes X0.here hx rfl (pc0 := pc) rfl (hb hby d) rfl (XT.ii_le_t q) ho hp u) (k1 q)
theorem r_ifle {o : Int} {a : Int32} (X : Sd K T h cl sl) (cx : Cx K y bytes mx rt R) (hd : Db bytes pc (.ifCond .le o) o pc' pt) (k1 : ¬ 0 < a → Run K Q T (mkF K.m pt L S)) (k2 : 0 < a → Run K Q T (mkF K.m pc' L S)) : Run K Q T (mkF K.m pc L (.int a :: S)) := by
  obtain ⟨locs, X0, -⟩ := X; obtain ⟨hx, -, hby, -⟩ := cx; obtain ⟨d, rfl, ho, hp⟩ := hd
  by_cases q : 0 < a
  · exact Run.st (fun t u => XS.ifNo X0.here hx rfl (hb hby d) rfl (XT.i0_le_f q) u) (k2 q)
  · exact Run.st (fun t u => XS.ifYes X0.here hx rfl (pc0 := pc) rfl (hb hby d) rfl (XT.i0_le_t q) ho hp u) (k1 q)
theorem r_lcmple {o : Int} {a b : Int64} (X : Sd K T h cl sl) (cx : Cx K y bytes mx rt R) (hd : Db bytes pc (.ifCond .le o) o pc' pt) (k1 : ¬ b < a → Run K Q T (mkF K.m pt L S)) (k2 : b < a → Run K Q T (mkF K.m pc' L S)) : Run K Q T (mkF K.m pc L (.int (XT.cmpL a b) :: S)) := by
  obtain ⟨locs, X0, -⟩ := X; obtain ⟨hx, -, hby, -⟩ := cx; obtain ⟨d, rfl, ho, hp⟩ := hd
  by_cases q : b < a
  · exact Run.st (fun t u => XS.ifNo X0.here hx rfl (hb hby d) rfl (XT.ll_le_f q) u) (k2 q)
  · exact Run.st (fun t u => XS.ifYes X0.here hx rfl (pc0 := pc) rfl (hb hby d) rfl (XT.ll_le_t q) ho hp u) (k1 q)
theorem r_ldc {i : Nat} {v : Int32} {a0 : Array Value} (X : Sd K T h cl sl) (cx : Cx K y bytes mx rt R) (hd : Dc bytes pc (.ldc i) 2 pc') (w : (Cond.constant y.cls i v).before a0 K.Z = true) (k : Run K Q T (mkF K.m pc' L (.int v :: S))) : Run K Q T (mkF K.m pc L S) := by
  obtain ⟨locs, X0, -⟩ := X; obtain ⟨hx, hZ, hby, -, hown, -⟩ := cx; obtain ⟨d, rfl⟩ := hd
  exact Run.st (fun t q => Jvm.Stand.ldcI X0 hx hown (mv hZ w) rfl (hb hby d) q) k
theorem r_ldcW {i : Nat} {v : Int32} {a0 : Array Value} (X : Sd K T h cl sl) (cx : Cx K y bytes mx rt R) (hd : Dc bytes pc (.ldc_w i) 3 pc') (w : (Cond.constant y.cls i v).before a0 K.Z = true) (k : Run K Q T (mkF K.m pc' L (.int v :: S))) : Run K Q T (mkF K.m pc L S) := by
  obtain ⟨locs, X0, -⟩ := X; obtain ⟨hx, hZ, hby, -, hown, -⟩ := cx; obtain ⟨d, rfl⟩ := hd
  exact Run.st (fun t q => Jvm.Stand.ldcWI X0 hx hown (mv hZ w) rfl (hb hby d) q) k
theorem r_ldc2 {i : Nat} {v : Int64} {a0 : Array Value} (X : Sd K T h cl sl) (cx : Cx K y bytes mx rt R) (hd : Dc bytes pc (.ldc2_w i) 3 pc') (w : (Cond.constantLong y.cls i v).before a0 K.Z = true) (k : Run K Q T (mkF K.m pc' L (.long v :: S))) : Run K Q T (mkF K.m pc L S) := by
  obtain ⟨locs, X0, -⟩ := X; obtain ⟨hx, hZ, hby, -, hown, -⟩ := cx; obtain ⟨d, rfl⟩ := hd
  exact Run.st (fun t q => Jvm.Stand.ldc2J X0 hx hown (mv hZ w) rfl (hb hby d) q) k
theorem fin {v : Option Value} (X : Sd K T h cl sl) (cx : Cx K y bytes mx rt R) (hv : rt = none → v = none) (hc : cl ≤ R.cells) (hs : sl ≤ R.slots) (hq : Q v h) {g : JFrame}
    (st : ∀ fs, (∀ (f : JFrame) (acts : List Action), f.method = K.m → f.locked = none → f.entered = [] → (doReturn K.e (T.setTop f) acts v).1 = T.setFrames fs) → Steps K.p.tables K.e K.below (T.setTop g) (T.setFrames fs)) : Run K Q T g := by
  obtain ⟨locs, X0, N, hz, eT⟩ := X
  obtain ⟨hx, hZ, hby, hml, hown, hret, hlk, hR, hnm⟩ := cx
  obtain ⟨fs, hr, hrun, hended, hW, hsame⟩ := X0.leave (v := v) (fun q => hv (hret.symm.trans q)) hlk
  refine ⟨_, v, locs, st fs hr, hrun, hended, ?_, N, ⟨_, rfl⟩, hW, hsame.mono (by rw [hR]; exact hc) (by rw [hR]; exact hs)⟩
  show Q v T.heap
  rw [eT]; exact hq
theorem r_ireturn {z : Int32} (X : Sd K T h cl sl) (cx : Cx K y bytes mx (some .int) R) (hd : Dc bytes pc .ireturn 1 pc') (hc : cl ≤ R.cells) (hs : sl ≤ R.slots) (hq : Q (some (.int z)) h) : Run K Q T (mkF K.m pc L (.int z :: S)) := by
  refine fin X cx (fun q => nomatch q) hc hs hq fun fs hr => ?_
  obtain ⟨locs, X0, -⟩ := X; obtain ⟨hx, -, hby, -, -, hret, -⟩ := cx; obtain ⟨d, rfl⟩ := hd
  exact retI X0 hx hret (hb hby d) hr
theorem r_zreturn {z : Int32} (X : Sd K T h cl sl) (cx : Cx K y bytes mx (some .boolean) R) (hd : Dc bytes pc .ireturn 1 pc') (hc : cl ≤ R.cells) (hs : sl ≤ R.slots) (hq : Q (some (.int (nar .boolean z))) h) : Run K Q T (mkF K.m pc L (.int z :: S)) := by
  refine fin X cx (fun q => nomatch q) hc hs hq fun fs hr => ?_
  obtain ⟨locs, X0, -⟩ := X; obtain ⟨hx, -, hby, -, -, hret, -⟩ := cx; obtain ⟨d, rfl⟩ := hd
  exact retN X0 hx (t := .boolean) hret (by simp) (hb hby d) hr
theorem r_lreturn {z : Int64} (X : Sd K T h cl sl) (cx : Cx K y bytes mx (some .long) R) (hd : Dc bytes pc .lreturn 1 pc') (hc : cl ≤ R.cells) (hs : sl ≤ R.slots) (hq : Q (some (.long z)) h) : Run K Q T (mkF K.m pc L [.long z]) := by
  refine fin X cx (fun q => nomatch q) hc hs hq fun fs hr => ?_
  obtain ⟨locs, X0, -⟩ := X; obtain ⟨hx, -, hby, -, -, hret, -⟩ := cx; obtain ⟨d, rfl⟩ := hd
  exact X0.lreturnOut hx hret (hb hby d) hr
theorem r_areturn {z : Addr} {ty : FieldType} (X : Sd K T h cl sl) (cx : Cx K y bytes mx (some ty) R) (hty : ty.isReference = true) (hd : Dc bytes pc .areturn 1 pc') (hc : cl ≤ R.cells) (hs : sl ≤ R.slots) (hq : Q (some (.ref z)) h) : Run K Q T (mkF K.m pc L [.ref z]) := by
  refine fin X cx (fun q => nomatch q) hc hs hq fun fs hr => ?_
  obtain ⟨locs, X0, -⟩ := X; obtain ⟨hx, -, hby, -, -, hret, -⟩ := cx; obtain ⟨d, rfl⟩ := hd
  exact X0.areturnOut hx rfl hret hty (hb hby d) hr
theorem r_return (X : Sd K T h cl sl) (cx : Cx K y bytes mx none R) (hd : Dc bytes pc .return_ 1 pc') (hc : cl ≤ R.cells) (hs : sl ≤ R.slots) (hq : Q none h) : Run K Q T (mkF K.m pc L []) := by
  refine fin X cx (fun _ => rfl) hc hs hq fun fs hr => ?_
  obtain ⟨locs, X0, -⟩ := X; obtain ⟨hx, -, hby, -, -, hret, -⟩ := cx; obtain ⟨d, rfl⟩ := hd
  exact X0.returnOut hx hret (hb hby d) hr
/-! fields -/
theorem r_getfield {O n d : String} {i : Nat} {a : Addr} {v : Value} {a0 : Array Value} (X : Sd K T h cl sl) (cx : Cx K y bytes mx rt R) (hd : Dc bytes pc (.getfield i) 3 pc') (w : (Cond.fieldLink y.cls i O n d).before a0 K.Z = true) (F : Fld K.Z h a O n d v) (k : ∀ T', Sd K T' h cl sl → Run K Q T' (mkF K.m pc' L (v :: S))) : Run K Q T (mkF K.m pc L (.ref a :: S)) := by
  obtain ⟨locs, X0, N, hz, eT⟩ := X; obtain ⟨hx, hZ, hby, -, hown, -⟩ := cx; obtain ⟨dd, rfl⟩ := hd
  obtain ⟨T1, X1, e1, st1⟩ := getF X0 hx hZ hown (host := "") (Or.inl w) Via.refl eT F (g := mkF K.m pc L (.ref a :: S)) rfl rfl (hb hby dd)
  exact Run.st st1 (k T1 ⟨locs, X1, N, hz, e1⟩)
theorem r_getfieldN {O n d host : String} {i : Nat} {a : Addr} {v : Value} {a0 : Array Value} (X : Sd K T h cl sl) (cx : Cx K y bytes mx rt R) (hd : Dc bytes pc (.getfield i) 3 pc') (w : (Cond.fieldLinkNest y.cls i O n d host).before a0 K.Z = true) (F : Fld K.Z h a O n d v) (k : ∀ T', Sd K T' h cl sl → Run K Q T' (mkF K.m pc' L (v :: S))) : Run K Q T (mkF K.m pc L (.ref a :: S)) := by
  obtain ⟨locs, X0, N, hz, eT⟩ := X; obtain ⟨hx, hZ, hby, -, hown, -⟩ := cx; obtain ⟨dd, rfl⟩ := hd
  obtain ⟨T1, X1, e1, st1⟩ := getF X0 hx hZ hown (host := host) (Or.inr w) Via.refl eT F (g := mkF K.m pc L (.ref a :: S)) rfl rfl (hb hby dd)
  exact Run.st st1 (k T1 ⟨locs, X1, N, hz, e1⟩)
theorem r_putfield {O n d C : String} {i kk : Nat} {a : Addr} {v old : Value} {ty : FieldType} {a0 : Array Value} (X : Sd K T h cl sl) (cx : Cx K y bytes mx rt R) (hd : Dc bytes pc (.putfield i) 3 pc') (w : (Cond.fieldLink y.cls i O n d).before a0 K.Z = true) (F : Fld K.Z h a O n d old) (E : Exa K.Z h a C) (hL : (Cond.lays C O n d).before a0 K.Z = true ∨ ((Cond.laysFinal C O n d).before a0 K.Z = true ∧ y.cls = O ∧ y.name = "<init>")) (wi : (Cond.instantiable C kk).before a0 K.Z = true)
    (hty : parseFieldDescriptor d = some ty) (hn : narrow ty v = v) (hf : fits ty v = true) (ge : K.n0 ≤ a) (k : ∀ T' h', Sd K T' h' cl sl → Wr h h' a (Jvm.RoadKit.slotOf K.Z O n d) v → Fld K.Z h' a O n d v → Run K Q T' (mkF K.m pc' L S)) : Run K Q T (mkF K.m pc L (v :: .ref a :: S)) := by
  obtain ⟨locs, X0, N, hz, eT⟩ := X; obtain ⟨hx, hZ, hby, -, hown, -, -, -, hnm⟩ := cx; obtain ⟨dd, rfl⟩ := hd
  obtain ⟨T1, h1, X1, e1, W1, st1⟩ := putF X0 hx hZ hown (host := "") (Or.inl w) Via.refl eT F E (hL.imp id fun q => ⟨q.1, q.2.1, hnm.trans q.2.2⟩) wi hty hn hf (g := mkF K.m pc L (v :: .ref a :: S)) rfl rfl (hb hby dd)
  exact Run.st st1 (k T1 h1 ⟨_, X1, Fr.snoc X1 N ge, by rw [W1.size]; exact hz, e1⟩ W1 (F.same W1))
theorem r_new {C : String} {i n : Nat} {a0 : Array Value} (X : Sd K T h cl sl) (cx : Cx K y bytes mx rt R) (hd : Dc bytes pc (.new i) 3 pc') (w : (Cond.classLink y.cls i C).before a0 K.Z = true) (wi : (Cond.instantiable C n).before a0 K.Z = true) (wz : (Cond.initialized C).before a0 K.Z = true) (hc : cl + 1 ≤ R.cells) (hs : sl + n ≤ R.slots)
    (k : ∀ T' h' a, a = h.size → K.n0 ≤ a → Sd K T' h' (cl + 1) (sl + n) → Ext h h' → Exa K.Z h' a C → (∀ {O nm d : String} {ty : FieldType}, Laid K.Z a0 C O nm d → parseFieldDescriptor d = some ty → Fld K.Z h' a O nm d (defaultValue ty)) → Run K Q T' (mkF K.m pc' L (.ref a :: S))) : Run K Q T (mkF K.m pc L S) := by
  obtain ⟨locs, X0, N, hz, eT⟩ := X; obtain ⟨hx, hZ, hby, -, hown, -, -, hR, -⟩ := cx; obtain ⟨dd, rfl⟩ := hd
  obtain ⟨T1, h1, X1, e1, E1, A1, D1, -, st1⟩ := newO X0 hx hZ hown w wi wz eT (g := mkF K.m pc L S) rfl (hb hby dd) (by rw [hR]; exact hc) (by rw [hR]; exact hs)
  exact Run.st st1 (k T1 h1 h.size rfl hz ⟨locs, X1, N, Nat.le_trans hz E1.1, e1⟩ E1 A1 D1)
theorem r_initO {i : Nat} {a : Addr} {a0 : Array Value} (X : Sd K T h cl sl) (cx : Cx K y bytes mx rt R) (hd : Dc bytes pc (.invokespecial i) 3 pc') (w1 : (Cond.methodLink y.cls i Lib.objectInit).before a0 K.Z = true) (w2 : (Cond.instanceMethod Lib.objectInit).before a0 K.Z = true) (w3 : (Cond.code Lib.objectInit ⟨#[0xb1]⟩ 1 none).before a0 K.Z = true) (hsz : L.size = mx) (hf : 1 ≤ R.frames) (hl : (S.map fun v => v.category).sum + 12 ≤ R.locals) (k : ∀ T', Sd K T' h cl sl → Run K Q T' (mkF K.m pc' L S)) : Run K Q T (mkF K.m pc L (.ref a :: S)) := by
  obtain ⟨locs, X0, N, hz, eT⟩ := X; obtain ⟨hx, hZ, hby, hml, hown, -, -, hR, -⟩ := cx; obtain ⟨dd, rfl⟩ := hd
  obtain ⟨T1, X1, e1, st1⟩ := initO X0 hx hZ hown w1 w2 w3 eT (g := mkF K.m pc L (.ref a :: S)) rfl (by rw [hml]; exact hsz) rfl (hb hby dd) (by rw [hR]; exact hf) (W := (S.map fun v => v.category).sum) (by show 2 * 0 + _ ≤ _; omega) (by rw [hR]; exact hl)
  exact Run.st st1 (k T1 ⟨locs, X1, N, hz, e1⟩)
end Rules
/-! arrays: their whole list of values -/
def AV (Z : State) (h : Heap) (a : Addr) (ty : FieldType) (vs : List Value) : Prop := ∃ c : Cell, Arr Z h a c ty ∧ c.slots.toList = vs ∧ vs.length < 2 ^ 31
def AI (ty : FieldType) (Z : State) (h : Heap) (a : Addr) (xs : List Int32) : Prop := AV Z h a ty (xs.map Value.int)
def AJ (Z : State) (h : Heap) (a : Addr) (xs : List Int64) : Prop := AV Z h a .long (xs.map Value.long)
theorem AV.ext {Z : State} {h h' : Heap} {a : Addr} {ty : FieldType} {vs : List Value} (A : AV Z h a ty vs) (E : Ext h h') : AV Z h' a ty vs := by obtain ⟨c, q, r⟩ := A; exact ⟨c, q.ext E, r⟩
theorem AV.other {Z : State} {h h' : Heap} {a b : Addr} {ty : FieldType} {vs : List Value} {sl : Nat} {v : Value} (A : AV Z h a ty vs) (W : Wr h h' b sl v) (q : a ≠ b) : AV Z h' a ty vs := by obtain ⟨c, u, r⟩ := A; exact ⟨c, u.other W q, r⟩
theorem AV.keep {Z : State} {h h' : Heap} {a : Addr} {ty : FieldType} {vs : List Value} {ws : List Addr} (A : AV Z h a ty vs) (k : Keep h h' ws) (q : a ∉ ws) : AV Z h' a ty vs := by obtain ⟨c, u, r⟩ := A; exact ⟨c, ⟨k.2.1 a c u.1 q, u.2⟩, r⟩
theorem AV.lt {Z : State} {h : Heap} {a : Addr} {ty : FieldType} {vs : List Value} (A : AV Z h a ty vs) : a < h.size := by obtain ⟨c, u, r⟩ := A; exact u.lt
theorem AV.len {Z : State} {h : Heap} {a : Addr} {ty : FieldType} {vs : List Value} (A : AV Z h a ty vs) : vs.length < 2 ^ 31 := by obtain ⟨c, u, r, q⟩ := A; exact q
theorem AV.set {Z : State} {h h' : Heap} {a : Addr} {ty : FieldType} {vs : List Value} {n : Nat} {v : Value} (A : AV Z h a ty vs) (W : Wr h h' a n v) : AV Z h' a ty (vs.set n v) := by
  obtain ⟨c, u, r, q⟩ := A
  refine ⟨_, u.same W, ?_, by simpa using q⟩
  subst r
  simp [Cell.setSlot]
section
variable {ty : FieldType} {Z : State} {h h' : Heap} {a b : Addr} {xs : List Int32} {zs : List Int64} {sl : Nat} {v : Value} {ws : List Addr}
theorem AI.ext (A : AI ty Z h a xs) (E : Ext h h') : AI ty Z h' a xs := AV.ext A E
theorem AI.other (A : AI ty Z h a xs) (W : Wr h h' b sl v) (q : a ≠ b) : AI ty Z h' a xs := AV.other A W q
theorem AI.keep (A : AI ty Z h a xs) (k : Keep h h' ws) (q : a ∉ ws) : AI ty Z h' a xs := AV.keep A k q
theorem AI.lt (A : AI ty Z h a xs) : a < h.size := AV.lt A
theorem AI.len (A : AI ty Z h a xs) : xs.length < 2 ^ 31 := by simpa using AV.len A
theorem AI.set {n : Nat} {x : Int32} (A : AI ty Z h a xs) (W : Wr h h' a n (.int x)) : AI ty Z h' a (xs.set n x) := by
  have q := AV.set A W
  show AV Z h' a ty ((xs.set n x).map Value.int)
  rw [List.map_set]; exact q
theorem AJ.ext (A : AJ Z h a zs) (E : Ext h h') : AJ Z h' a zs := AV.ext A E
theorem AJ.other (A : AJ Z h a zs) (W : Wr h h' b sl v) (q : a ≠ b) : AJ Z h' a zs := AV.other A W q
theorem AJ.keep (A : AJ Z h a zs) (k : Keep h h' ws) (q : a ∉ ws) : AJ Z h' a zs := AV.keep A k q
theorem AJ.lt (A : AJ Z h a zs) : a < h.size := AV.lt A
theorem AJ.len (A : AJ Z h a zs) : zs.length < 2 ^ 31 := by simpa using AV.len A
theorem AJ.set {n : Nat} {x : Int64} (A : AJ Z h a zs) (W : Wr h h' a n (.long x)) : AJ Z h' a (zs.set n x) := by
  have q := AV.set A W
  show AV Z h' a .long ((zs.set n x).map Value.long)
  rw [List.map_set]; exact q
end
theorem ofNat_neg {n : Nat} (hn : n < 2 ^ 31) : ¬ Int32.ofNat n < 0 := by
  rw [Int32.lt_iff_toInt_lt, Int32.toInt_ofNat_of_lt hn]
  show ¬ (n : Int) < 0
  omega
theorem ofNat_clamp {n : Nat} (hn : n < 2 ^ 31) : (Int32.ofNat n).toNatClampNeg = n := by
  show (Int32.ofNat n).toInt.toNat = n
  rw [Int32.toInt_ofNat_of_lt hn]; rfl
section Rules
variable {K : KT} {Q : Option Value → Heap → Prop} {T : State} {h : Heap} {cl sl : Nat} {y : MethodName} {bytes : ByteArray} {mx : Nat} {rt : Option FieldType} {R : Room} {pc pc' pt : Nat} {L : Array Slot} {S : List Value}
theorem r_arraylength {ty : FieldType} {vs : List Value} {a : Addr} (X : Sd K T h cl sl) (cx : Cx K y bytes mx rt R) (hd : Dc bytes pc .arraylength 1 pc') (A : AV K.Z h a ty vs) (k : Run K Q T (mkF K.m pc' L (.int (Int32.ofNat vs.length) :: S))) : Run K Q T (mkF K.m pc L (.ref a :: S)) := by
  obtain ⟨locs, X0, N, hz, eT⟩ := X; obtain ⟨hx, hZ, hby, -, hown, -⟩ := cx; obtain ⟨dd, rfl⟩ := hd
  obtain ⟨c, Ar, hc, hlen⟩ := A
  have hs : c.slots.size = vs.length := by rw [← hc]; simp
  refine Run.st (X0.arraylength hx (cell := c) (by rw [eT]; exact Ar.1) (State.isArrayOf_alike hZ.alike Ar.2.1) (g := mkF K.m pc L (.ref a :: S)) rfl (rest := S) rfl (hb hby dd)) ?_
  rw [hs]; exact k
theorem r_alen {ty : FieldType} {xs : List Int32} {a : Addr} (X : Sd K T h cl sl) (cx : Cx K y bytes mx rt R) (hd : Dc bytes pc .arraylength 1 pc') (A : AI ty K.Z h a xs) (n : Nat) (hn : xs.length = n) (k : Run K Q T (mkF K.m pc' L (.int (Int32.ofNat n) :: S))) : Run K Q T (mkF K.m pc L (.ref a :: S)) :=
  r_arraylength X cx hd A (by rw [List.length_map, hn]; exact k)
theorem r_alenJ {xs : List Int64} {a : Addr} (X : Sd K T h cl sl) (cx : Cx K y bytes mx rt R) (hd : Dc bytes pc .arraylength 1 pc') (A : AJ K.Z h a xs) (n : Nat) (hn : xs.length = n) (k : Run K Q T (mkF K.m pc' L (.int (Int32.ofNat n) :: S))) : Run K Q T (mkF K.m pc L (.ref a :: S)) :=
  r_arraylength X cx hd A (by rw [List.length_map, hn]; exact k)
theorem r_iaload {xs : List Int32} {a : Addr} {j : Int32} {v : Int32} (X : Sd K T h cl sl) (cx : Cx K y bytes mx rt R) (hd : Dc bytes pc .iaload 1 pc') (A : AI .int K.Z h a xs) (n : Nat) (hj : j = Int32.ofNat n) (hv : xs[n]? = some v) (k : Run K Q T (mkF K.m pc' L (.int v :: S))) : Run K Q T (mkF K.m pc L (.int j :: .ref a :: S)) := by
  obtain ⟨locs, X0, N, hz, eT⟩ := X; obtain ⟨hx, hZ, hby, -, hown, -⟩ := cx; obtain ⟨dd, rfl⟩ := hd
  obtain ⟨c, Ar, hc, hlen⟩ := A
  have hs : c.slots.size = xs.length := by have := congrArg List.length hc; simpa using this
  have hl : n < xs.length := (List.getElem?_eq_some_iff.mp hv).1
  have hn : n < 2 ^ 31 := by simp at hlen; omega
  subst hj
  have e1 := ofNat_clamp hn
  have hat : c.slots[(Int32.ofNat n).toNatClampNeg]? = some (.int v) := by
    rw [e1, ← Array.getElem?_toList, hc, List.getElem?_map, hv]; rfl
  exact Run.st (X0.iaload hx (cell := c) (by rw [eT]; exact Ar.1) (State.isArrayOf_alike hZ.alike Ar.2.1) Ar.2.2 (by rw [e1, hs]; intro q; rcases q with q | q; exact ofNat_neg hn q; omega) hat (g := mkF K.m pc L (.int (Int32.ofNat n) :: .ref a :: S)) rfl rfl (hb hby dd)) k
theorem r_saload {xs : List Int32} {a : Addr} {j : Int32} {v : Int32} (X : Sd K T h cl sl) (cx : Cx K y bytes mx rt R) (hd : Dc bytes pc .saload 1 pc') (A : AI .short K.Z h a xs) (n : Nat) (hj : j = Int32.ofNat n) (hv : xs[n]? = some v) (k : Run K Q T (mkF K.m pc' L (.int v :: S))) : Run K Q T (mkF K.m pc L (.int j :: .ref a :: S)) := by
  obtain ⟨locs, X0, N, hz, eT⟩ := X; obtain ⟨hx, hZ, hby, -, hown, -⟩ := cx; obtain ⟨dd, rfl⟩ := hd
  obtain ⟨c, Ar, hc, hlen⟩ := A
  have hs : c.slots.size = xs.length := by have := congrArg List.length hc; simpa using this
  have hl : n < xs.length := (List.getElem?_eq_some_iff.mp hv).1
  have hn : n < 2 ^ 31 := by simp at hlen; omega
  subst hj
  have e1 := ofNat_clamp hn
  have hat : c.slots[(Int32.ofNat n).toNatClampNeg]? = some (.int v) := by
    rw [e1, ← Array.getElem?_toList, hc, List.getElem?_map, hv]; rfl
  exact Run.st (X0.saload hx (cell := c) (by rw [eT]; exact Ar.1) (State.isArrayOf_alike hZ.alike Ar.2.1) Ar.2.2 (by rw [e1, hs]; intro q; rcases q with q | q; exact ofNat_neg hn q; omega) hat (g := mkF K.m pc L (.int (Int32.ofNat n) :: .ref a :: S)) rfl rfl (hb hby dd)) k
theorem r_baload {xs : List Int32} {a : Addr} {j : Int32} {v : Int32} (X : Sd K T h cl sl) (cx : Cx K y bytes mx rt R) (hd : Dc bytes pc .baload 1 pc') (A : AI .byte K.Z h a xs) (n : Nat) (hj : j = Int32.ofNat n) (hv : xs[n]? = some v) (k : Run K Q T (mkF K.m pc' L (.int v :: S))) : Run K Q T (mkF K.m pc L (.int j :: .ref a :: S)) := by
  obtain ⟨locs, X0, N, hz, eT⟩ := X; obtain ⟨hx, hZ, hby, -, hown, -⟩ := cx; obtain ⟨dd, rfl⟩ := hd
  obtain ⟨c, Ar, hc, hlen⟩ := A
  have hs : c.slots.size = xs.length := by have := congrArg List.length hc; simpa using this
  have hl : n < xs.length := (List.getElem?_eq_some_iff.mp hv).1
  have hn : n < 2 ^ 31 := by simp at hlen; omega
  subst hj
  have e1 := ofNat_clamp hn
  have hat : c.slots[(Int32.ofNat n).toNatClampNeg]? = some (.int v) := by
    rw [e1, ← Array.getElem?_toList, hc, List.getElem?_map, hv]; rfl
  exact Run.st (X0.baloadBytes hx (cell := c) (by rw [eT]; exact Ar.1) (State.isArrayOf_alike hZ.alike Ar.2.1) Ar.2.2 (by rw [e1, hs]; intro q; rcases q with q | q; exact ofNat_neg hn q; omega) hat (g := mkF K.m pc L (.int (Int32.ofNat n) :: .ref a :: S)) rfl rfl (hb hby dd)) k
theorem r_laload {xs : List Int64} {a : Addr} {j : Int32} {v : Int64} (X : Sd K T h cl sl) (cx : Cx K y bytes mx rt R) (hd : Dc bytes pc .laload 1 pc') (A : AJ K.Z h a xs) (n : Nat) (hj : j = Int32.ofNat n) (hv : xs[n]? = some v) (k : Run K Q T (mkF K.m pc' L (.long v :: S))) : Run K Q T (mkF K.m pc L (.int j :: .ref a :: S)) := by
  obtain ⟨locs, X0, N, hz, eT⟩ := X; obtain ⟨hx, hZ, hby, -, hown, -⟩ := cx; obtain ⟨dd, rfl⟩ := hd
  obtain ⟨c, Ar, hc, hlen⟩ := A
  have hs : c.slots.size = xs.length := by have := congrArg List.length hc; simpa using this
  have hl : n < xs.length := (List.getElem?_eq_some_iff.mp hv).1
  have hn : n < 2 ^ 31 := by simp at hlen; omega
  subst hj
  have e1 := ofNat_clamp hn
  have hat : c.slots[(Int32.ofNat n).toNatClampNeg]? = some (.long v) := by
    rw [e1, ← Array.getElem?_toList, hc, List.getElem?_map, hv]; rfl
  exact Run.st (X0.laload hx (cell := c) (by rw [eT]; exact Ar.1) (State.isArrayOf_alike hZ.alike Ar.2.1) Ar.2.2 (by rw [e1, hs]; intro q; rcases q with q | q; exact ofNat_neg hn q; omega) hat (g := mkF K.m pc L (.int (Int32.ofNat n) :: .ref a :: S)) rfl rfl (hb hby dd)) k
theorem r_iastore {xs : List Int32} {a : Addr} {j : Int32} {x : Int32} (X : Sd K T h cl sl) (cx : Cx K y bytes mx rt R) (hd : Dc bytes pc .iastore 1 pc') (A : AI .int K.Z h a xs) (n : Nat) (hj : j = Int32.ofNat n) (hl : n < xs.length) (ge : K.n0 ≤ a) (k : ∀ T' h', Sd K T' h' cl sl → Wr h h' a n (.int x) → AI .int K.Z h' a (xs.set n x) → Run K Q T' (mkF K.m pc' L S)) : Run K Q T (mkF K.m pc L (.int x :: .int j :: .ref a :: S)) := by
  obtain ⟨locs, X0, N, hz, eT⟩ := X; obtain ⟨hx, hZ, hby, -, hown, -⟩ := cx; obtain ⟨dd, rfl⟩ := hd
  have A0 := A
  obtain ⟨c, Ar, hc, hlen⟩ := A
  have hs : c.slots.size = xs.length := by have := congrArg List.length hc; simpa using this
  have hn : n < 2 ^ 31 := by simp at hlen; omega
  subst hj
  have e1 := ofNat_clamp hn
  obtain ⟨T1, h1, X1, eh1, W1, st1⟩ := stI X0 hx hZ eT Ar (j := Int32.ofNat n) (x := x) (by rw [e1, hs]; intro q; rcases q with q | q; exact ofNat_neg hn q; omega) (g := mkF K.m pc L (.int x :: .int (Int32.ofNat n) :: .ref a :: S)) rfl rfl (hb hby dd)
  have hz1 : K.n0 ≤ h1.size := by rw [W1.size]; exact hz
  have N1 := Fr.snoc X1 N ge
  rw [e1] at W1
  exact Run.st st1 (k T1 h1 ⟨_, X1, N1, hz1, eh1⟩ W1 (AI.set A0 W1))
theorem r_sastore {xs : List Int32} {a : Addr} {j : Int32} {x : Int32} (X : Sd K T h cl sl) (cx : Cx K y bytes mx rt R) (hd : Dc bytes pc .sastore 1 pc') (A : AI .short K.Z h a xs) (n : Nat) (hj : j = Int32.ofNat n) (hl : n < xs.length) (ge : K.n0 ≤ a) (k : ∀ T' h', Sd K T' h' cl sl → Wr h h' a n (.int (nar .short x)) → AI .short K.Z h' a (xs.set n (nar .short x)) → Run K Q T' (mkF K.m pc' L S)) : Run K Q T (mkF K.m pc L (.int x :: .int j :: .ref a :: S)) := by
  obtain ⟨locs, X0, N, hz, eT⟩ := X; obtain ⟨hx, hZ, hby, -, hown, -⟩ := cx; obtain ⟨dd, rfl⟩ := hd
  have A0 := A
  obtain ⟨c, Ar, hc, hlen⟩ := A
  have hs : c.slots.size = xs.length := by have := congrArg List.length hc; simpa using this
  have hn : n < 2 ^ 31 := by simp at hlen; omega
  subst hj
  have e1 := ofNat_clamp hn
  obtain ⟨T1, h1, X1, eh1, W1, st1⟩ := stS X0 hx hZ eT Ar (j := Int32.ofNat n) (x := x) (by rw [e1, hs]; intro q; rcases q with q | q; exact ofNat_neg hn q; omega) (g := mkF K.m pc L (.int x :: .int (Int32.ofNat n) :: .ref a :: S)) rfl rfl (hb hby dd)
  have hz1 : K.n0 ≤ h1.size := by rw [W1.size]; exact hz
  have N1 := Fr.snoc X1 N ge
  rw [e1] at W1
  exact Run.st st1 (k T1 h1 ⟨_, X1, N1, hz1, eh1⟩ W1 (AI.set A0 W1))
theorem r_bastore {xs : List Int32} {a : Addr} {j : Int32} {x : Int32} (X : Sd K T h cl sl) (cx : Cx K y bytes mx rt R) (hd : Dc bytes pc .bastore 1 pc') (A : AI .byte K.Z h a xs) (n : Nat) (hj : j = Int32.ofNat n) (hl : n < xs.length) (ge : K.n0 ≤ a) (k : ∀ T' h', Sd K T' h' cl sl → Wr h h' a n (.int (nar .byte x)) → AI .byte K.Z h' a (xs.set n (nar .byte x)) → Run K Q T' (mkF K.m pc' L S)) : Run K Q T (mkF K.m pc L (.int x :: .int j :: .ref a :: S)) := by
  obtain ⟨locs, X0, N, hz, eT⟩ := X; obtain ⟨hx, hZ, hby, -, hown, -⟩ := cx; obtain ⟨dd, rfl⟩ := hd
  have A0 := A
  obtain ⟨c, Ar, hc, hlen⟩ := A
  have hs : c.slots.size = xs.length := by have := congrArg List.length hc; simpa using this
  have hn : n < 2 ^ 31 := by simp at hlen; omega
  subst hj
  have e1 := ofNat_clamp hn
  obtain ⟨T1, h1, X1, eh1, W1, st1⟩ := stB X0 hx hZ eT Ar (j := Int32.ofNat n) (x := x) (by rw [e1, hs]; intro q; rcases q with q | q; exact ofNat_neg hn q; omega) (g := mkF K.m pc L (.int x :: .int (Int32.ofNat n) :: .ref a :: S)) rfl rfl (hb hby dd)
  have hz1 : K.n0 ≤ h1.size := by rw [W1.size]; exact hz
  have N1 := Fr.snoc X1 N ge
  rw [e1] at W1
  exact Run.st st1 (k T1 h1 ⟨_, X1, N1, hz1, eh1⟩ W1 (AI.set A0 W1))
theorem r_lastore {xs : List Int64} {a : Addr} {j : Int32} {x : Int64} (X : Sd K T h cl sl) (cx : Cx K y bytes mx rt R) (hd : Dc bytes pc .lastore 1 pc') (A : AJ K.Z h a xs) (n : Nat) (hj : j = Int32.ofNat n) (hl : n < xs.length) (ge : K.n0 ≤ a) (k : ∀ T' h', Sd K T' h' cl sl → Wr h h' a n (.long x) → AJ K.Z h' a (xs.set n x) → Run K Q T' (mkF K.m pc' L S)) : Run K Q T (mkF K.m pc L (.long x :: .int j :: .ref a :: S)) := by
  obtain ⟨locs, X0, N, hz, eT⟩ := X; obtain ⟨hx, hZ, hby, -, hown, -⟩ := cx; obtain ⟨dd, rfl⟩ := hd
  have A0 := A
  obtain ⟨c, Ar, hc, hlen⟩ := A
  have hs : c.slots.size = xs.length := by have := congrArg List.length hc; simpa using this
  have hn : n < 2 ^ 31 := by simp at hlen; omega
  subst hj
  have e1 := ofNat_clamp hn
  obtain ⟨T1, h1, X1, eh1, W1, st1⟩ := stJ X0 hx hZ eT Ar (j := Int32.ofNat n) (x := x) (by rw [e1, hs]; intro q; rcases q with q | q; exact ofNat_neg hn q; omega) (g := mkF K.m pc L (.long x :: .int (Int32.ofNat n) :: .ref a :: S)) rfl rfl (hb hby dd)
  have hz1 : K.n0 ≤ h1.size := by rw [W1.size]; exact hz
  have N1 := Fr.snoc X1 N ge
  rw [e1] at W1
  exact Run.st st1 (k T1 h1 ⟨_, X1, N1, hz1, eh1⟩ W1 (AJ.set A0 W1))
theorem r_newarray {aty : ArrayType} {a0 : Array Value} {z : Int32} (X : Sd K T h cl sl) (cx : Cx K y bytes mx rt R) (hd : Dc bytes pc (.newarray aty) 2 pc') (w : (Cond.arrayClass (newarray.typeOf aty)).before a0 K.Z = true) (n cap : Nat) (hj : z = Int32.ofNat n) (hcap : n ≤ cap) (hb8 : cap * 8 ≤ 536870912) (hc : cl + 1 ≤ R.cells) (hs : sl + cap ≤ R.slots)
    (k : ∀ T' h' a, a = h.size → K.n0 ≤ a → Sd K T' h' (cl + 1) (sl + cap) → Ext h h' → AV K.Z h' a (newarray.typeOf aty) (List.replicate n (defaultValue (newarray.typeOf aty))) → Run K Q T' (mkF K.m pc' L (.ref a :: S))) : Run K Q T (mkF K.m pc L (.int z :: S)) := by
  obtain ⟨locs, X0, N, hz, eT⟩ := X; obtain ⟨hx, hZ, hby, -, hown, -, -, hR, -⟩ := cx; obtain ⟨dd, rfl⟩ := hd
  have hn : n < 2 ^ 31 := by omega
  subst hj
  have e1 := ofNat_clamp hn
  obtain ⟨T1, h1, cA, X1, eh1, E1, A1, st1⟩ := newP X0 hx hZ w eT (g := mkF K.m pc L (.int (Int32.ofNat n) :: S)) rfl (hb hby dd) (n := Int32.ofNat n) rfl (ofNat_neg hn) (cap := cap) (by rw [e1]; exact hcap) hb8 (by rw [hR]; exact hc) (by rw [hR]; exact hs)
  refine Run.st st1 (k T1 h1 h.size rfl hz ⟨locs, X1, N, Nat.le_trans hz E1.1, eh1⟩ E1 ⟨_, A1, ?_, by simpa using hn⟩)
  simp [newA, e1]
theorem AI.new {ty : FieldType} {Z : State} {h : Heap} {a : Addr} {n : Nat} (A : AV Z h a ty (List.replicate n (.int 0))) : AI ty Z h a (List.replicate n 0) := by
  show AV Z h a ty _
  rw [List.map_replicate]; exact A
theorem AJ.new {Z : State} {h : Heap} {a : Addr} {n : Nat} (A : AV Z h a .long (List.replicate n (.long 0))) : AJ Z h a (List.replicate n 0) := by
  show AV Z h a .long _
  rw [List.map_replicate]; exact A
end Rules
/-! contracts and calls -/
def Con (l : Launch) (Z : State) (y : MethodName) (bytes : ByteArray) (mx : Nat) (rt : Option FieldType) (rm : Room) (as : Array Value) (h0 : Heap) (n0 : Nat) (Q : Option Value → Heap → Prop) : Prop :=
  ∀ ws, MetFree l y (head1 (Jvm.Cond.code y bytes mx rt :: ws) rm) (fun a U => a = as ∧ Z.Warmed39 U.vm ∧ U.heap = h0) (fun _ _ _ _ _ => True) (fun _ U o U' => ∃ v L, o = .returned v ∧ (Q v U'.heap ∧ Fr n0 L) ∧ FrameEnd U o U' L rm.cells rm.slots)
theorem Con.of {l : Launch} {Z : State} {y : MethodName} {bytes : ByteArray} {mx : Nat} {rt : Option FieldType} {rm : Room} {as : Array Value} {h0 : Heap} {n0 : Nat} {Q : Option Value → Heap → Prop} (hy : plainFor y = true) (Z0 : n0 ≤ h0.size)
    (body : ∀ K : KT, K.l = l → K.Z = Z → K.n0 = n0 → Cx K y bytes mx rt rm → ∀ T, Sd K T h0 0 0 → Run K Q T (entryFrame K.m as mx)) : Con l Z y bytes mx rt rm as h0 n0 Q := by
  intro ws
  refine MetFree.of_bodySF hy hisR ?_
  intro p e s m args below meth c s₁ Bd hml0 hP hK
  obtain ⟨rfl, hZ, hh⟩ := hP
  have hown : s.vm.findClass y.cls = some m.cls := findClass_of_methodNamed Bd.named
  have hnm := (name_of_methodNamed Bd.named Bd.method).1
  have X0 : Stand p l e rm s m args below meth c s₁ [] 0 0 := Stand.of_body Bd
  have e0 : s₁.heap = h0 := by rw [← hh, Bd.state]; rfl
  obtain ⟨s₂, v, L, h1, h2, h3, h4, h5, h6⟩ := body (p, l, e, rm, s, m, args, below, meth, c, Z, n0) rfl rfl rfl ⟨Bd.exec, hZ, Bd.bytes, hml0, hown, Bd.returns, Bd.notSynchronized, rfl, hnm⟩ s₁ ⟨[], X0, Fr.nil n0, Z0, e0⟩
  exact ⟨s₂, _, h1, h2, h3, v, L, rfl, ⟨h4, h5⟩, h6⟩
section Calls
variable {K : KT} {Q : Option Value → Heap → Prop} {T : State} {h : Heap} {cl sl : Nat} {y : MethodName} {bytes : ByteArray} {mx : Nat} {rt : Option FieldType} {R : Room} {pc pc' pt : Nat} {L : Array Slot}
theorem r_static {z : MethodName} {zb : ByteArray} {zm : Nat} {zr : Option FieldType} {rm : Room} {i : Nat} {a0 : Array Value} {Qz : Option Value → Heap → Prop} {St : List Value} (argsL rest : List Value) (X : Sd K T h cl sl) (cx : Cx K y bytes mx rt R) (hd : Dc bytes pc (.invokestatic i) 3 pc')
    (w1 : (Cond.methodLink y.cls i z).before a0 K.Z = true) (w2 : (Cond.static z).before a0 K.Z = true) (w3 : (Cond.initialized z.cls).before a0 K.Z = true) (w4 : (Cond.code z zb zm zr).before a0 K.Z = true) (hm : z.cls ≠ "java/lang/invoke/MethodHandle" ∧ z.cls ≠ "java/lang/invoke/VarHandle")
    (con : Con K.l K.Z z zb zm zr rm argsL.toArray h K.n0 Qz) (hpd : ∀ sig, parseMethodDescriptor z.desc = some sig → argsL.length = sig.parameters.length) (hSt : St = argsL.reverse ++ rest) (hsz : L.size = mx) (hf : rm.frames + 1 ≤ R.frames) (hl : (rest.map fun v => v.category).sum + (zm + 11) + rm.locals ≤ R.locals) (hc : cl + rm.cells ≤ R.cells) (hs : sl + rm.slots ≤ R.slots)
    (k : ∀ T' h' v, Sd K T' h' (cl + rm.cells) (sl + rm.slots) → Qz v h' → Run K Q T' (mkF K.m pc' L (v.toList ++ rest))) (hmono : ∀ v h', Qz v h' → h.size ≤ h'.size) : Run K Q T (mkF K.m pc L St) := by
  obtain ⟨locs, X0, N, hz, eT⟩ := X; obtain ⟨hx, hZ, hby, hml, hown, -, -, hR, -⟩ := cx; obtain ⟨dd, rfl⟩ := hd
  obtain ⟨v, _, ⟨T1, L1, k1, n1⟩, -, X1, ⟨Lc, ⟨hQ, hF⟩, l1, y1, z1⟩, st1⟩ := Jvm.LawKit.callS X0 hx (y := z) hown (mvT hZ w1) (mvT hZ w2) (mvT hZ w3) (mvT hZ w4) hm (backOf (W := (rest.map fun v => v.category).sum) (Q := fun v h L => Qz v h ∧ Fr K.n0 L) (con []) hZ w4 w3 (by rw [hR]; exact hf) (by rw [hR]; exact hl)) (g := mkF K.m pc L St) rfl (by rw [hml]; exact hsz) (argsL := argsL) (rest := rest) hpd hSt (by show 2 * 0 + _ ≤ _; omega) (hb hby dd) (fun _ _ => ⟨rfl, eT, by rw [hR]; exact hc, by rw [hR]; exact hs⟩)
  dsimp only [Pt.U, Pt.locs, Pt.cells, Pt.slots] at X1 l1 y1 z1 st1 hQ
  subst l1 y1 z1
  exact Run.st st1 (k T1 _ v ⟨_, X1, Fr.app N hF, Nat.le_trans hz (hmono _ _ hQ), rfl⟩ hQ)
theorem r_virtual {z : MethodName} {C : String} {zb : ByteArray} {zm : Nat} {zr : Option FieldType} {rm : Room} {i : Nat} {a : Addr} {a0 : Array Value} {Qz : Option Value → Heap → Prop} {St : List Value} (argsL rest : List Value) (X : Sd K T h cl sl) (cx : Cx K y bytes mx rt R) (hd : Dc bytes pc (.invokevirtual i) 3 pc') (E : Exa K.Z h a C)
    (w1 : (Cond.methodLink y.cls i z).before a0 K.Z = true) (w2 : (Cond.declares z).before a0 K.Z = true) (w3 : (Cond.selects C z z).before a0 K.Z = true) (w4 : (Cond.instanceMethod z).before a0 K.Z = true) (w5 : (Cond.initialized z.cls).before a0 K.Z = true) (w6 : (Cond.code z zb zm zr).before a0 K.Z = true) (hm : z.cls ≠ "java/lang/invoke/MethodHandle" ∧ z.cls ≠ "java/lang/invoke/VarHandle")
    (con : Con K.l K.Z z zb zm zr rm (.ref a :: argsL).toArray h K.n0 Qz) (hpd : ∀ sig, parseMethodDescriptor z.desc = some sig → argsL.length = sig.parameters.length) (hSt : St = argsL.reverse ++ .ref a :: rest) (hsz : L.size = mx) (hf : rm.frames + 1 ≤ R.frames) (hl : (rest.map fun v => v.category).sum + (zm + 11) + rm.locals ≤ R.locals) (hc : cl + rm.cells ≤ R.cells) (hs : sl + rm.slots ≤ R.slots)
    (k : ∀ T' h' v, Sd K T' h' (cl + rm.cells) (sl + rm.slots) → Qz v h' → Run K Q T' (mkF K.m pc' L (v.toList ++ rest))) (hmono : ∀ v h', Qz v h' → h.size ≤ h'.size) : Run K Q T (mkF K.m pc L St) := by
  obtain ⟨locs, X0, N, hz, eT⟩ := X; obtain ⟨hx, hZ, hby, hml, hown, -, -, hR, -⟩ := cx; obtain ⟨dd, rfl⟩ := hd
  obtain ⟨cq, kq, qa, qb, qc⟩ := isOf hZ eT E
  obtain ⟨v, _, ⟨T1, L1, k1, n1⟩, -, X1, ⟨Lc, ⟨hQ, hF⟩, l1, y1, z1⟩, st1⟩ := X0.virtualBack hx (y := z) (z := z) hown (mvT hZ w1) (mvT hZ w2) (notFace_of_selects (args := #[]) (mvT hZ w3)) (mvT hZ w3) (mvT hZ w4) hm (backOf (W := (rest.map fun v => v.category).sum) (Q := fun v h L => Qz v h ∧ Fr K.n0 L) (con []) hZ w6 w5 (by rw [hR]; exact hf) (by rw [hR]; exact hl)) qa qc (g := mkF K.m pc L St) rfl (by rw [hml]; exact hsz) (Steps.refl _) (argsL := argsL) (rest := rest) hpd hSt (by show 2 * 0 + _ ≤ _; omega) (hb hby dd) (fun _ _ => ⟨rfl, eT, by rw [hR]; exact hc, by rw [hR]; exact hs⟩)
  dsimp only [Pt.U, Pt.locs, Pt.cells, Pt.slots] at X1 l1 y1 z1 st1 hQ
  subst l1 y1 z1
  exact Run.st (fun t q => st1.trans q) (k T1 _ v ⟨_, X1, Fr.app N hF, Nat.le_trans hz (hmono _ _ hQ), rfl⟩ hQ)
theorem r_private {z z' : MethodName} {C C' : String} {zb : ByteArray} {zm : Nat} {zr : Option FieldType} {rm : Room} {i : Nat} {a : Addr} {a0 : Array Value} {Qz : Option Value → Heap → Prop} {St : List Value} (argsL rest : List Value) (X : Sd K T h cl sl) (cx : Cx K y bytes mx rt R) (hd : Dc bytes pc (.invokevirtual i) 3 pc') (E : Exa K.Z h a C)
    (w1 : (Cond.methodLink y.cls i z).before a0 K.Z = true) (w2 : (Cond.selects C' z' z').before a0 K.Z = true) (w3 : (Cond.instanceMethod z).before a0 K.Z = true) (w4 : (Cond.privateMethod z).before a0 K.Z = true) (w5 : (Cond.initialized z.cls).before a0 K.Z = true) (w6 : (Cond.code z zb zm zr).before a0 K.Z = true) (hzz : z'.cls = z.cls) (hm : z.cls ≠ "java/lang/invoke/MethodHandle" ∧ z.cls ≠ "java/lang/invoke/VarHandle")
    (con : Con K.l K.Z z zb zm zr rm (.ref a :: argsL).toArray h K.n0 Qz) (hpd : ∀ sig, parseMethodDescriptor z.desc = some sig → argsL.length = sig.parameters.length) (hSt : St = argsL.reverse ++ .ref a :: rest) (hsz : L.size = mx) (hf : rm.frames + 1 ≤ R.frames) (hl : (rest.map fun v => v.category).sum + (zm + 11) + rm.locals ≤ R.locals) (hc : cl + rm.cells ≤ R.cells) (hs : sl + rm.slots ≤ R.slots)
    (k : ∀ T' h' v, Sd K T' h' (cl + rm.cells) (sl + rm.slots) → Qz v h' → Run K Q T' (mkF K.m pc' L (v.toList ++ rest))) (hmono : ∀ v h', Qz v h' → h.size ≤ h'.size) : Run K Q T (mkF K.m pc L St) := by
  obtain ⟨locs, X0, N, hz, eT⟩ := X; obtain ⟨hx, hZ, hby, hml, hown, -, -, hR, -⟩ := cx; obtain ⟨dd, rfl⟩ := hd
  obtain ⟨cq, qa, qb⟩ := E.cell
  have u2 : (Cond.selects C' z' z').before K.args K.s = true := mvT hZ w2
  have u3 : (Cond.instanceMethod z).before K.args K.s = true := mvT hZ w3
  obtain ⟨c2, r2, m2, q1, q2, q3, q4, kP, hkP, hkPi⟩ := Cond.selects_spec u2
  have hc2 := findClass_of_methodNamed q3
  rw [hzz] at hc2
  have hpriv := Cond.privateMethod_at (mvP hZ w4 (args := K.args))
  have hsel := selects_self_of_private hc2 hkP hkPi hpriv u3 hm
  obtain ⟨v, _, ⟨T1, L1, k1, n1⟩, -, X1, ⟨Lc, ⟨hQ, hF⟩, l1, y1, z1⟩, st1⟩ := X0.privateBack hx (y := z) hown (mvT hZ w1) u3 hsel hpriv (mvT hZ w6) hm (backOf (W := (rest.map fun v => v.category).sum) (Q := fun v h L => Qz v h ∧ Fr K.n0 L) (con []) hZ w6 w5 (by rw [hR]; exact hf) (by rw [hR]; exact hl)) (g := mkF K.m pc L St) rfl (by rw [hml]; exact hsz) (Steps.refl _) (a := a) (by rw [eT]; exact qa) qb (argsL := argsL) (rest := rest) hpd hSt (by show 2 * 0 + _ ≤ _; omega) (hb hby dd) (fun _ _ => ⟨rfl, eT, by rw [hR]; exact hc, by rw [hR]; exact hs⟩)
  dsimp only [Pt.U, Pt.locs, Pt.cells, Pt.slots] at X1 l1 y1 z1 st1 hQ
  subst l1 y1 z1
  exact Run.st (fun t q => st1.trans q) (k T1 _ v ⟨_, X1, Fr.app N hF, Nat.le_trans hz (hmono _ _ hQ), rfl⟩ hQ)
theorem r_special {z : MethodName} {zb : ByteArray} {zm : Nat} {rm : Room} {i : Nat} {a : Addr} {a0 : Array Value} {Qz : Option Value → Heap → Prop} {St : List Value} (argsL rest : List Value) (X : Sd K T h cl sl) (cx : Cx K y bytes mx rt R) (hd : Dc bytes pc (.invokespecial i) 3 pc') (hzn : z.name = "<init>")
    (w1 : (Cond.methodLink y.cls i z).before a0 K.Z = true) (w2 : (Cond.instanceMethod z).before a0 K.Z = true) (w3 : (Cond.initialized z.cls).before a0 K.Z = true) (w4 : (Cond.code z zb zm none).before a0 K.Z = true) (hm : z.cls ≠ "java/lang/invoke/MethodHandle" ∧ z.cls ≠ "java/lang/invoke/VarHandle")
    (con : Con K.l K.Z z zb zm none rm (.ref a :: argsL).toArray h K.n0 Qz) (hpd : ∀ sig, parseMethodDescriptor z.desc = some sig → argsL.length = sig.parameters.length) (hSt : St = argsL.reverse ++ .ref a :: rest) (hsz : L.size = mx) (hf : rm.frames + 1 ≤ R.frames) (hl : (rest.map fun v => v.category).sum + (zm + 11) + rm.locals ≤ R.locals) (hc : cl + rm.cells ≤ R.cells) (hs : sl + rm.slots ≤ R.slots)
    (k : ∀ T' h' v, Sd K T' h' (cl + rm.cells) (sl + rm.slots) → Qz v h' → Run K Q T' (mkF K.m pc' L (v.toList ++ rest))) (hmono : ∀ v h', Qz v h' → h.size ≤ h'.size) : Run K Q T (mkF K.m pc L St) := by
  obtain ⟨locs, X0, N, hz, eT⟩ := X; obtain ⟨hx, hZ, hby, hml, hown, -, -, hR, -⟩ := cx; obtain ⟨dd, rfl⟩ := hd
  obtain ⟨v, _, ⟨T1, L1, k1, n1⟩, -, X1, ⟨Lc, ⟨hQ, hF⟩, l1, y1, z1⟩, st1⟩ := X0.specialBack hx (y := z) hzn hown (mvT hZ w1) (mvT hZ w2) (mvT hZ w4) hm (backOf (W := (rest.map fun v => v.category).sum) (Q := fun v h L => Qz v h ∧ Fr K.n0 L) (con []) hZ w4 w3 (by rw [hR]; exact hf) (by rw [hR]; exact hl)) (g := mkF K.m pc L St) rfl (by rw [hml]; exact hsz) (Steps.refl _) (a := a) (argsL := argsL) (rest := rest) hpd hSt (by show 2 * 0 + _ ≤ _; omega) (hb hby dd) (fun _ _ => ⟨rfl, eT, by rw [hR]; exact hc, by rw [hR]; exact hs⟩)
  dsimp only [Pt.U, Pt.locs, Pt.cells, Pt.slots] at X1 l1 y1 z1 st1 hQ
  subst l1 y1 z1
  exact Run.st (fun t q => st1.trans q) (k T1 _ v ⟨_, X1, Fr.app N hF, Nat.le_trans hz (hmono _ _ hQ), rfl⟩ hQ)
end Calls
end Jvm.Own
namespace Jvm.Pilot.@@N@@
open Jvm Jvm.ClassFile Sem Op Lib Jvm.Free Jvm.Stand Jvm.LawKit Jvm.RoadKit Bundle Jvm.Own Jvm.Pilot.@@N@@.Jvm.D
theorem pd_0 : parseMethodDescriptor "(I)V" = some ⟨[.int], none⟩ := by decide +kernel
theorem pd_1 : parseMethodDescriptor "(III)V" = some ⟨[.int, .int, .int], none⟩ := by decide +kernel
def BR (Z : State) (h : Heap) (o ac an : Addr) (cs : List Int32) (nz : List Int64) : Prop :=
  Exa Z h o site_49.cls ∧ Fld Z h o site_49.cls "coefficients" "[S" (.ref ac) ∧ Fld Z h o site_49.cls "nonzero" "[J" (.ref an) ∧ AI .short Z h ac cs ∧ AJ Z h an nz ∧ o ≠ ac ∧ o ≠ an ∧ ac ≠ an
def own_bit (k : Int32) : Int64 := (1 : Int64) <<< (Int32.toInt64 k &&& 63)
def own_nz (w : Int64) (s k : Int32) : Int64 := if s = 0 then w &&& (own_bit k ^^^ -1) else w ||| own_bit k
theorem own_short (v : Int32) : nar .short (Int16.toInt32 (Int32.toInt16 v)) = Int16.toInt32 (Int32.toInt16 v) := by
  show Int16.toInt32 (Int32.toInt16 (Int16.toInt32 (Int32.toInt16 v))) = _
  rw [Int16.toInt16_toInt32]
theorem own_bits : ∀ a b : Fin 64, a ≠ b → own_bit (Int32.ofNat a.val) &&& (own_bit (Int32.ofNat b.val) ^^^ -1) = own_bit (Int32.ofNat a.val) := by decide +kernel
theorem own_bitn : ∀ a : Fin 64, own_bit (Int32.ofNat a.val) &&& (own_bit (Int32.ofNat a.val) ^^^ -1) = 0 := by decide +kernel
theorem own_mk (x : Int32) (m : Nat) (hm : m < 2 ^ 31) : ∃ n : Nat, n ≤ m ∧ x &&& Int32.ofNat m = Int32.ofNat n := by
  refine ⟨(x &&& Int32.ofNat m).toBitVec.toNat, ?_, ?_⟩
  · simp only [Int32.toBitVec_and, BitVec.toNat_and]
    refine Nat.le_trans Nat.and_le_right ?_
    show (BitVec.ofNat 32 m).toNat ≤ m
    rw [BitVec.toNat_ofNat]; exact Nat.mod_le _ _
  · apply Int32.toBitVec_inj.mp
    show _ = BitVec.ofNat 32 _
    rw [BitVec.ofNat_toNat]; simp
theorem own_gd {xs : List Int32} {n : Nat} (h : n < xs.length) : xs[n]? = some (xs[n]?.getD 0) := by
  rw [List.getElem?_eq_getElem h]; rfl
theorem own_gdL {xs : List Int64} {n : Nat} (h : n < xs.length) : xs[n]? = some (xs[n]?.getD 0) := by
  rw [List.getElem?_eq_getElem h]; rfl
theorem own_ix (b k : Nat) : (64 : Int32) * Int32.ofNat b + Int32.ofNat k = Int32.ofNat (64 * b + k) := by
  rw [Int32.ofNat_add, Int32.ofNat_mul]; rfl
theorem own_inj {a b : Nat} (ha : a < 64) (hb : b < 64) : Int32.ofNat a = Int32.ofNat b ↔ a = b := by
  rw [← Int32.toInt_inj, Int32.toInt_ofNat_of_lt (by omega), Int32.toInt_ofNat_of_lt (by omega)]
  omega
theorem P32m1_0 : Dc prog_32_method_1_code 0 (.aload_n 0) 1 1 := ⟨(by decide +kernel), rfl⟩
theorem P32m1_1 : Dc prog_32_method_1_code 1 (.invokespecial 1) 3 4 := ⟨(by decide +kernel), rfl⟩
theorem P32m1_4 : Dc prog_32_method_1_code 4 (.aload_n 0) 1 5 := ⟨(by decide +kernel), rfl⟩
theorem P32m1_5 : Dc prog_32_method_1_code 5 (.bipush 64) 2 7 := ⟨(by decide +kernel), rfl⟩
theorem P32m1_7 : Dc prog_32_method_1_code 7 (.iload_n 1) 1 8 := ⟨(by decide +kernel), rfl⟩
theorem P32m1_8 : Dc prog_32_method_1_code 8 (.imul) 1 9 := ⟨(by decide +kernel), rfl⟩
theorem P32m1_9 : Dc prog_32_method_1_code 9 (.newarray .short) 2 11 := ⟨(by decide +kernel), rfl⟩
theorem P32m1_11 : Dc prog_32_method_1_code 11 (.putfield 7) 3 14 := ⟨(by decide +kernel), rfl⟩
theorem P32m1_14 : Dc prog_32_method_1_code 14 (.aload_n 0) 1 15 := ⟨(by decide +kernel), rfl⟩
theorem P32m1_15 : Dc prog_32_method_1_code 15 (.iload_n 1) 1 16 := ⟨(by decide +kernel), rfl⟩
theorem P32m1_16 : Dc prog_32_method_1_code 16 (.newarray .long) 2 18 := ⟨(by decide +kernel), rfl⟩
theorem P32m1_18 : Dc prog_32_method_1_code 18 (.putfield 13) 3 21 := ⟨(by decide +kernel), rfl⟩
theorem P32m1_21 : Dc prog_32_method_1_code 21 (.return_) 1 22 := ⟨(by decide +kernel), rfl⟩
theorem ef_P32m1 (m : MethodId) (o : Addr) : entryFrame m #[(.ref o), (.int (2 : Int32))] 2 = mkF m 0 #[.val (.ref o), .val (.int (2 : Int32))] [] := by first | (simp [entryFrame, mkF, argsToLocals, Value.category]; done) | rfl
set_option maxRecDepth 65536 in
set_option maxHeartbeats 40000000 in
theorem con_P32m1 (l : Launch) (Z : State) (a0 : Array Value) (hw : Tb tables_1 a0 Z) (o : Addr) (h0 : Heap) (n0 : Nat) (Z0 : n0 ≤ h0.size) (E_o : Exa Z h0 o site_49.cls) (F_co : Fld Z h0 o site_49.cls "coefficients" "[S" .null) (F_nz : Fld Z h0 o site_49.cls "nonzero" "[J" .null) (g_o : n0 ≤ o) :
    Con l Z site_49 prog_32_method_1_code 2 (none) ({ frames := 1, cells := 2, slots := 130, locals := 12 } : Room) #[(.ref o), (.int (2 : Int32))] h0 n0 (fun v h => h0.size ≤ h.size ∧ v = none ∧ ∃ ac an, n0 ≤ ac ∧ n0 ≤ an ∧ BR Z h o ac an (List.replicate 128 0) [0, 0]) := by
  refine Con.of (plainFor_of_name (by decide +kernel)) Z0 ?_
  intro K hl hZ hn cx T0 X0
  subst hl hZ hn
  refine Run.cast (ef_P32m1 K.m o) ?_
  have Kp : Keep h0 h0 [o] := Keep.refl _ _
  refine r_aloadN X0 cx P32m1_0 rfl ?_
  refine r_initO X0 cx P32m1_1 (hw.get 6 rfl) (hw.get 7 rfl) (hw.get 8 rfl) rfl (by decide) (leb rfl) (fun T1 X1 => ?_)
  refine r_aloadN X1 cx P32m1_4 rfl ?_
  refine r_bipush (64) X1 cx P32m1_5 rfl ?_
  refine r_iloadN X1 cx P32m1_7 rfl ?_
  refine r_imul X1 cx P32m1_8 ?_
  refine r_top (v' := 128) (by decide) ?_
  refine r_newarray X1 cx P32m1_9 (hw.get 9 rfl) (128) 128 rfl (Nat.le_refl _) (by decide) (by decide) (by decide) (fun T2 h2 ac ea2 g_ac X2 Ex2 A2 => ?_)
  have fr_ac : h0.size ≤ ac := fr_new ea2 Kp.1
  replace Kp := Kp.ext Ex2
  have ne_ac_o : ac ≠ o := ne_new ea2 E_o.lt
  replace F_co := F_co.ext Ex2
  replace F_nz := F_nz.ext Ex2
  replace E_o := E_o.ext Ex2
  have A_ac : AI .short K.Z h2 ac (List.replicate (128) 0) := AI.new A2
  refine r_putfield X2 cx P32m1_11 (hw.get 10 rfl) F_co E_o (Or.inr ⟨(hw.get 11 rfl), rfl, rfl⟩) (hw.get 1 rfl) (ty := .array .short) (by decide) rfl rfl g_o (fun T3 h3 X3 W3 N3 => ?_)
  replace Kp := Kp.wr W3 (Or.inl (by simp))
  replace F_nz := F_nz.other W3 (Or.inr (slot_ne (Or.inr (hw.get 14 rfl)) (Or.inr (hw.get 11 rfl)) (by decide) (t := .array .long) (t' := .array .short) (by decide) (by decide)))
  replace E_o := E_o.wr W3
  replace A_ac := A_ac.other W3 ne_ac_o
  have F_co := N3
  refine r_aloadN X3 cx P32m1_14 rfl ?_
  refine r_iloadN X3 cx P32m1_15 rfl ?_
  refine r_newarray X3 cx P32m1_16 (hw.get 12 rfl) (2) 2 rfl (Nat.le_refl _) (by decide) (by decide) (by decide) (fun T4 h4 an ea4 g_an X4 Ex4 A4 => ?_)
  have fr_an : h0.size ≤ an := fr_new ea4 Kp.1
  replace Kp := Kp.ext Ex4
  have ne_an_o : an ≠ o := ne_new ea4 E_o.lt
  have ne_an_ac : an ≠ ac := ne_new ea4 A_ac.lt
  replace F_co := F_co.ext Ex4
  replace F_nz := F_nz.ext Ex4
  replace E_o := E_o.ext Ex4
  replace A_ac := A_ac.ext Ex4
  have A_an : AJ K.Z h4 an [0, 0] := AJ.new A4
  refine r_putfield X4 cx P32m1_18 (hw.get 13 rfl) F_nz E_o (Or.inr ⟨(hw.get 14 rfl), rfl, rfl⟩) (hw.get 1 rfl) (ty := .array .long) (by decide) rfl rfl g_o (fun T5 h5 X5 W5 N5 => ?_)
  replace Kp := Kp.wr W5 (Or.inl (by simp))
  replace F_co := F_co.other W5 (Or.inr (slot_ne (Or.inr (hw.get 11 rfl)) (Or.inr (hw.get 14 rfl)) (by decide) (t := .array .short) (t' := .array .long) (by decide) (by decide)))
  replace E_o := E_o.wr W5
  replace A_ac := A_ac.other W5 ne_ac_o
  replace A_an := A_an.other W5 ne_an_o
  have F_nz := N5
  refine r_return X5 cx P32m1_21 (by decide) (by decide) ?_
  exact ⟨Kp.1, rfl, ac, an, g_ac, g_an, E_o, F_co, F_nz, A_ac, A_an, ne_ac_o.symm, ne_an_o.symm, ne_an_ac.symm⟩
theorem P32m2_0 : Dc prog_32_method_2_code 0 (.iload_n 3) 1 1 := ⟨(by decide +kernel), rfl⟩
theorem P32m2_1 : Dc prog_32_method_2_code 1 (.i2s) 1 2 := ⟨(by decide +kernel), rfl⟩
theorem P32m2_2 : Dc prog_32_method_2_code 2 (.istore 4) 2 4 := ⟨(by decide +kernel), rfl⟩
theorem P32m2_4 : Dc prog_32_method_2_code 4 (.aload_n 0) 1 5 := ⟨(by decide +kernel), rfl⟩
theorem P32m2_5 : Dc prog_32_method_2_code 5 (.getfield 7) 3 8 := ⟨(by decide +kernel), rfl⟩
theorem P32m2_8 : Dc prog_32_method_2_code 8 (.bipush 64) 2 10 := ⟨(by decide +kernel), rfl⟩
theorem P32m2_10 : Dc prog_32_method_2_code 10 (.iload_n 1) 1 11 := ⟨(by decide +kernel), rfl⟩
theorem P32m2_11 : Dc prog_32_method_2_code 11 (.imul) 1 12 := ⟨(by decide +kernel), rfl⟩
theorem P32m2_12 : Dc prog_32_method_2_code 12 (.iload_n 2) 1 13 := ⟨(by decide +kernel), rfl⟩
theorem P32m2_13 : Dc prog_32_method_2_code 13 (.iadd) 1 14 := ⟨(by decide +kernel), rfl⟩
theorem P32m2_14 : Dc prog_32_method_2_code 14 (.iload 4) 2 16 := ⟨(by decide +kernel), rfl⟩
theorem P32m2_16 : Dc prog_32_method_2_code 16 (.sastore) 1 17 := ⟨(by decide +kernel), rfl⟩
theorem P32m2_17 : Dc prog_32_method_2_code 17 (.iload 4) 2 19 := ⟨(by decide +kernel), rfl⟩
theorem P32m2_19 : Db prog_32_method_2_code 19 (.ifCond .ne 22) (22) 22 41 := ⟨(by decide +kernel), rfl, by decide, by decide⟩
theorem P32m2_22 : Dc prog_32_method_2_code 22 (.aload_n 0) 1 23 := ⟨(by decide +kernel), rfl⟩
theorem P32m2_23 : Dc prog_32_method_2_code 23 (.getfield 13) 3 26 := ⟨(by decide +kernel), rfl⟩
theorem P32m2_26 : Dc prog_32_method_2_code 26 (.iload_n 1) 1 27 := ⟨(by decide +kernel), rfl⟩
theorem P32m2_27 : Dc prog_32_method_2_code 27 (.dup2) 1 28 := ⟨(by decide +kernel), rfl⟩
theorem P32m2_28 : Dc prog_32_method_2_code 28 (.laload) 1 29 := ⟨(by decide +kernel), rfl⟩
theorem P32m2_29 : Dc prog_32_method_2_code 29 (.lconst 1) 1 30 := ⟨(by decide +kernel), rfl⟩
theorem P32m2_30 : Dc prog_32_method_2_code 30 (.iload_n 2) 1 31 := ⟨(by decide +kernel), rfl⟩
theorem P32m2_31 : Dc prog_32_method_2_code 31 (.lshl) 1 32 := ⟨(by decide +kernel), rfl⟩
theorem P32m2_32 : Dc prog_32_method_2_code 32 (.ldc2_w 17) 3 35 := ⟨(by decide +kernel), rfl⟩
theorem P32m2_35 : Dc prog_32_method_2_code 35 (.lxor) 1 36 := ⟨(by decide +kernel), rfl⟩
theorem P32m2_36 : Dc prog_32_method_2_code 36 (.land) 1 37 := ⟨(by decide +kernel), rfl⟩
theorem P32m2_37 : Dc prog_32_method_2_code 37 (.lastore) 1 38 := ⟨(by decide +kernel), rfl⟩
theorem P32m2_38 : Db prog_32_method_2_code 38 (.goto 15) (15) 41 53 := ⟨(by decide +kernel), rfl, by decide, by decide⟩
theorem P32m2_41 : Dc prog_32_method_2_code 41 (.aload_n 0) 1 42 := ⟨(by decide +kernel), rfl⟩
theorem P32m2_42 : Dc prog_32_method_2_code 42 (.getfield 13) 3 45 := ⟨(by decide +kernel), rfl⟩
theorem P32m2_45 : Dc prog_32_method_2_code 45 (.iload_n 1) 1 46 := ⟨(by decide +kernel), rfl⟩
theorem P32m2_46 : Dc prog_32_method_2_code 46 (.dup2) 1 47 := ⟨(by decide +kernel), rfl⟩
theorem P32m2_47 : Dc prog_32_method_2_code 47 (.laload) 1 48 := ⟨(by decide +kernel), rfl⟩
theorem P32m2_48 : Dc prog_32_method_2_code 48 (.lconst 1) 1 49 := ⟨(by decide +kernel), rfl⟩
theorem P32m2_49 : Dc prog_32_method_2_code 49 (.iload_n 2) 1 50 := ⟨(by decide +kernel), rfl⟩
theorem P32m2_50 : Dc prog_32_method_2_code 50 (.lshl) 1 51 := ⟨(by decide +kernel), rfl⟩
theorem P32m2_51 : Dc prog_32_method_2_code 51 (.lor) 1 52 := ⟨(by decide +kernel), rfl⟩
theorem P32m2_52 : Dc prog_32_method_2_code 52 (.lastore) 1 53 := ⟨(by decide +kernel), rfl⟩
theorem P32m2_53 : Dc prog_32_method_2_code 53 (.return_) 1 54 := ⟨(by decide +kernel), rfl⟩
theorem ef_P32m2 (m : MethodId) (o : Addr) (b : Int32) (k : Int32) (v : Int32) : entryFrame m #[(.ref o), (.int b), (.int k), (.int v)] 5 = mkF m 0 #[.val (.ref o), .val (.int b), .val (.int k), .val (.int v), .unset] [] := by first | (simp [entryFrame, mkF, argsToLocals, Value.category]; done) | rfl
set_option maxRecDepth 65536 in
set_option maxHeartbeats 40000000 in
theorem con_P32m2 (l : Launch) (Z : State) (a0 : Array Value) (hw : Tb tables_1 a0 Z) (o : Addr) (b : Int32) (k : Int32) (v : Int32) (h0 : Heap) (n0 : Nat) (Z0 : n0 ≤ h0.size) (ac an : Addr) (cs : List Int32) (nz : List Int64) (nb nk : Nat) (B : BR Z h0 o ac an cs nz) (eb : b = Int32.ofNat nb) (ek : k = Int32.ofNat nk) (hb : nb < nz.length) (hk : 64 * nb + nk < cs.length) (g_ac : n0 ≤ ac) (g_an : n0 ≤ an) :
    Con l Z site_61 prog_32_method_2_code 5 (none) ({ frames := 0, cells := 0, slots := 0, locals := 0 } : Room) #[(.ref o), (.int b), (.int k), (.int v)] h0 n0 (fun r h => h0.size ≤ h.size ∧ r = none ∧ BR Z h o ac an (cs.set (64 * nb + nk) (Int16.toInt32 (Int32.toInt16 v))) (nz.set nb (own_nz (nz[nb]?.getD 0) (Int16.toInt32 (Int32.toInt16 v)) k))) := by
  refine Con.of (plainFor_of_name (by decide +kernel)) Z0 ?_
  intro K hl hZ hn cx T0 X0
  subst hl hZ hn
  refine Run.cast (ef_P32m2 K.m o b k v) ?_
  obtain ⟨E_o, F_co, F_nz, A_ac, A_an, ne_o_ac, ne_o_an, ne_ac_an⟩ := B
  refine r_iloadN X0 cx P32m2_0 rfl ?_
  refine r_i2s X0 cx P32m2_1 ?_
  refine r_istore (fun zz => #[.val (.ref o), .val (.int b), .val (.int k), .val (.int v), .val (.int zz)]) X0 cx P32m2_2 (fun _ => rfl) (fun c e_c => ?_)
  refine r_aloadN X0 cx P32m2_4 rfl ?_
  refine r_getfield X0 cx P32m2_5 (hw.get 10 rfl) F_co (fun T1 X1 => ?_)
  refine r_bipush (64) X1 cx P32m2_8 rfl ?_
  refine r_iloadN X1 cx P32m2_10 rfl ?_
  refine r_imul X1 cx P32m2_11 ?_
  refine r_iloadN X1 cx P32m2_12 rfl ?_
  refine r_iadd X1 cx P32m2_13 ?_
  refine r_iload X1 cx P32m2_14 rfl ?_
  refine r_sastore X1 cx P32m2_16 A_ac (64 * nb + nk) (by rw [eb, ek]; exact own_ix nb nk) hk g_ac (fun T2 h2 X2 W2 N2 => ?_)
  replace F_co := F_co.other W2 (Or.inl ne_o_ac)
  replace F_nz := F_nz.other W2 (Or.inl ne_o_ac)
  replace E_o := E_o.wr W2
  replace A_an := A_an.other W2 ne_ac_an.symm
  have A_ac : AI .short K.Z h2 ac (cs.set (64 * nb + nk) (nar .short c)) := N2
  refine r_iload X2 cx P32m2_17 rfl ?_
  refine r_ifne X2 cx P32m2_19 (fun c19 => ?_) (fun c19 => ?_)
  · refine r_aloadN X2 cx P32m2_41 rfl ?_
    refine r_getfield X2 cx P32m2_42 (hw.get 13 rfl) F_nz (fun T3 X3 => ?_)
    refine r_iloadN X3 cx P32m2_45 rfl ?_
    refine r_dup2 X3 cx P32m2_46 rfl rfl ?_
    refine r_laload X3 cx P32m2_47 A_an (nb) eb (v := (nz[nb]?.getD 0)) (own_gdL hb) ?_
    refine r_lconst (1) X3 cx P32m2_48 rfl ?_
    refine r_iloadN X3 cx P32m2_49 rfl ?_
    refine r_lshl X3 cx P32m2_50 ?_
    refine r_lor X3 cx P32m2_51 ?_
    refine r_lastore X3 cx P32m2_52 A_an (nb) eb hb g_an (fun T4 h4 X4 W4 N4 => ?_)
    replace F_co := F_co.other W4 (Or.inl ne_o_an)
    replace F_nz := F_nz.other W4 (Or.inl ne_o_an)
    replace E_o := E_o.wr W4
    replace A_ac := A_ac.other W4 ne_ac_an
    have A_an : AJ K.Z h4 an (nz.set nb (nz[nb]?.getD 0 ||| own_bit k)) := N4
    refine r_return X4 cx P32m2_53 (by decide) (by decide) ?_
    rw [e_c, own_short] at A_ac
    rw [e_c] at c19
    refine ⟨?_, rfl, E_o, F_co, F_nz, A_ac, ?_, ne_o_ac, ne_o_an, ne_ac_an⟩
    · rw [W4.size, W2.size]; exact Nat.le_refl _
    · unfold own_nz
      first | (rw [if_pos c19]; exact A_an) | (rw [if_neg c19]; exact A_an)
  · refine r_aloadN X2 cx P32m2_22 rfl ?_
    refine r_getfield X2 cx P32m2_23 (hw.get 13 rfl) F_nz (fun T3 X3 => ?_)
    refine r_iloadN X3 cx P32m2_26 rfl ?_
    refine r_dup2 X3 cx P32m2_27 rfl rfl ?_
    refine r_laload X3 cx P32m2_28 A_an (nb) eb (v := (nz[nb]?.getD 0)) (own_gdL hb) ?_
    refine r_lconst (1) X3 cx P32m2_29 rfl ?_
    refine r_iloadN X3 cx P32m2_30 rfl ?_
    refine r_lshl X3 cx P32m2_31 ?_
    refine r_ldc2 X3 cx P32m2_32 (hw.get 22 rfl) ?_
    refine r_lxor X3 cx P32m2_35 ?_
    refine r_land X3 cx P32m2_36 ?_
    refine r_lastore X3 cx P32m2_37 A_an (nb) eb hb g_an (fun T4 h4 X4 W4 N4 => ?_)
    replace F_co := F_co.other W4 (Or.inl ne_o_an)
    replace F_nz := F_nz.other W4 (Or.inl ne_o_an)
    replace E_o := E_o.wr W4
    replace A_ac := A_ac.other W4 ne_ac_an
    have A_an : AJ K.Z h4 an (nz.set nb (nz[nb]?.getD 0 &&& (own_bit k ^^^ -1))) := N4
    refine r_goto X4 cx P32m2_38 ?_
    refine r_return X4 cx P32m2_53 (by decide) (by decide) ?_
    rw [e_c, own_short] at A_ac
    rw [e_c] at c19
    refine ⟨?_, rfl, E_o, F_co, F_nz, A_ac, ?_, ne_o_ac, ne_o_an, ne_ac_an⟩
    · rw [W4.size, W2.size]; exact Nat.le_refl _
    · unfold own_nz
      first | (rw [if_pos c19]; exact A_an) | (rw [if_neg c19]; exact A_an)
theorem own_z1 (s k : Int32) : own_nz 0 s k = if ¬ s = 0 then own_bit k else 0 := by
  unfold own_nz
  by_cases q : s = 0
  · rw [if_pos q, if_neg (by simp [q]), Int64.zero_and]
  · rw [if_neg q, if_pos q, Int64.zero_or]
theorem own_z2 (s1 s2 : Int32) (a b : Nat) (ha : a < 64) (hb : b < 64) : own_nz (own_nz 0 s1 (Int32.ofNat a)) s2 (Int32.ofNat b) = (if ¬ s1 = 0 ∧ ¬ a = b then own_bit (Int32.ofNat a) else 0) ||| (if ¬ s2 = 0 then own_bit (Int32.ofNat b) else 0) := by
  rw [own_z1]
  by_cases q1 : s1 = 0
  · rw [if_neg (by simp [q1]), if_neg (by simp [q1]), own_z1, Int64.zero_or]
  · rw [if_pos q1]
    by_cases q3 : a = b
    · subst q3
      rw [if_neg (by simp)]
      unfold own_nz
      by_cases q2 : s2 = 0
      · rw [if_pos q2, if_neg (by simp [q2]), own_bitn ⟨a, ha⟩, Int64.zero_or]
      · rw [if_neg q2, if_pos q2, Int64.or_self, Int64.zero_or]
    · rw [if_pos ⟨q1, q3⟩]
      unfold own_nz
      by_cases q2 : s2 = 0
      · rw [if_pos q2, if_neg (by simp [q2]), own_bits ⟨a, ha⟩ ⟨b, hb⟩ (by simpa using q3), Int64.or_zero]
      · rw [if_neg q2, if_pos q2]
def own_nz1 (nb1 nk1 : Nat) (s1 : Int32) : List Int64 := [(0 : Int64), 0].set nb1 (own_nz ([(0 : Int64), 0][nb1]?.getD 0) s1 (Int32.ofNat nk1))
def own_nz2 (nb1 nk1 nb2 nk2 : Nat) (s1 s2 : Int32) : List Int64 := (own_nz1 nb1 nk1 s1).set nb2 (own_nz ((own_nz1 nb1 nk1 s1)[nb2]?.getD 0) s2 (Int32.ofNat nk2))
theorem own_law0 {nb1 nk1 nb2 nk2 : Nat} (s1 s2 : Int32) (h1 : nb1 ≤ 1) (h2 : nb2 ≤ 1) (h3 : nk1 ≤ 63) (h4 : nk2 ≤ 63) {w1 w2 : Int64} (e1 : w1 = if ¬ s1 = 0 ∧ ¬ (nb1 = nb2 ∧ nk1 = nk2) then own_bit (Int32.ofNat nk1) else 0) (e2 : w2 = if ¬ s2 = 0 then own_bit (Int32.ofNat nk2) else 0) :
    (own_nz2 nb1 nk1 nb2 nk2 s1 s2)[0]?.getD 0 = (if nb1 = 0 then w1 else 0) ||| (if nb2 = 0 then w2 else 0) ∧ (own_nz2 nb1 nk1 nb2 nk2 s1 s2)[1]?.getD 0 = (if nb1 = 1 then w1 else 0) ||| (if nb2 = 1 then w2 else 0) := by
  have hb1 : nb1 = 0 ∨ nb1 = 1 := by omega
  have hb2 : nb2 = 0 ∨ nb2 = 1 := by omega
  rcases hb1 with rfl | rfl <;> rcases hb2 with rfl | rfl
  · simp only [true_and] at e1
    subst e1 e2
    refine ⟨?_, by show (0 : Int64) = _; simp⟩
    show own_nz (own_nz 0 s1 _) s2 _ = _
    rw [own_z2 s1 s2 nk1 nk2 (by omega) (by omega)]; simp
  · simp only [Nat.zero_ne_one, false_and, not_false_eq_true, and_true] at e1
    subst e1 e2
    refine ⟨?_, ?_⟩
    · show own_nz 0 s1 _ = _
      rw [own_z1]; simp
    · show own_nz 0 s2 _ = _
      rw [own_z1]; simp
  · simp only [Nat.one_ne_zero, false_and, not_false_eq_true, and_true] at e1
    subst e1 e2
    refine ⟨?_, ?_⟩
    · show own_nz 0 s2 _ = _
      rw [own_z1]; simp
    · show own_nz 0 s1 _ = _
      rw [own_z1]; simp
  · simp only [true_and] at e1
    subst e1 e2
    refine ⟨by show (0 : Int64) = _; simp, ?_⟩
    show own_nz (own_nz 0 s1 _) s2 _ = _
    rw [own_z2 s1 s2 nk1 nk2 (by omega) (by omega)]; simp
def own_cs2 (p1 p2 : Nat) (s1 s2 : Int32) : List Int32 := ((List.replicate 128 (0 : Int32)).set p1 s1).set p2 s2
theorem own_at (p1 p2 p : Nat) (s1 s2 : Int32) (h1 : p1 < 128) (h2 : p2 < 128) (h : p < 128) : (own_cs2 p1 p2 s1 s2)[p]?.getD 0 = if p = p2 then s2 else if p = p1 then s1 else 0 := by
  unfold own_cs2
  by_cases q : p = p2
  · subst q
    rw [if_pos rfl, List.getElem?_set_self (by simpa using h)]; rfl
  · rw [if_neg q, List.getElem?_set_ne (Ne.symm q)]
    by_cases r : p = p1
    · subst r
      rw [if_pos rfl, List.getElem?_set_self (by simpa using h)]; rfl
    · rw [if_neg r, List.getElem?_set_ne (Ne.symm r), List.getElem?_replicate, if_pos h]; rfl
theorem L_0 : Dc code 0 (.iload_n 0) 1 1 := ⟨at_0, rfl⟩
theorem L_1 : Dc code 1 (.bipush 63) 2 3 := ⟨at_1, rfl⟩
theorem L_3 : Dc code 3 (.iand) 1 4 := ⟨at_3, rfl⟩
theorem L_4 : Dc code 4 (.istore 5) 2 6 := ⟨at_4, rfl⟩
theorem L_6 : Dc code 6 (.iload_n 0) 1 7 := ⟨at_6, rfl⟩
theorem L_7 : Dc code 7 (.bipush 6) 2 9 := ⟨at_7, rfl⟩
theorem L_9 : Dc code 9 (.iushr) 1 10 := ⟨at_9, rfl⟩
theorem L_10 : Dc code 10 (.iconst 1) 1 11 := ⟨at_10, rfl⟩
theorem L_11 : Dc code 11 (.iand) 1 12 := ⟨at_11, rfl⟩
theorem L_12 : Dc code 12 (.istore 6) 2 14 := ⟨at_12, rfl⟩
theorem L_14 : Dc code 14 (.iload_n 2) 1 15 := ⟨at_14, rfl⟩
theorem L_15 : Dc code 15 (.bipush 63) 2 17 := ⟨at_15, rfl⟩
theorem L_17 : Dc code 17 (.iand) 1 18 := ⟨at_17, rfl⟩
theorem L_18 : Dc code 18 (.istore 7) 2 20 := ⟨at_18, rfl⟩
theorem L_20 : Dc code 20 (.iload_n 2) 1 21 := ⟨at_20, rfl⟩
theorem L_21 : Dc code 21 (.bipush 6) 2 23 := ⟨at_21, rfl⟩
theorem L_23 : Dc code 23 (.iushr) 1 24 := ⟨at_23, rfl⟩
theorem L_24 : Dc code 24 (.iconst 1) 1 25 := ⟨at_24, rfl⟩
theorem L_25 : Dc code 25 (.iand) 1 26 := ⟨at_25, rfl⟩
theorem L_26 : Dc code 26 (.istore 8) 2 28 := ⟨at_26, rfl⟩
theorem L_28 : Dc code 28 (.iload 4) 2 30 := ⟨at_28, rfl⟩
theorem L_30 : Dc code 30 (.bipush 63) 2 32 := ⟨at_30, rfl⟩
theorem L_32 : Dc code 32 (.iand) 1 33 := ⟨at_32, rfl⟩
theorem L_33 : Dc code 33 (.istore 9) 2 35 := ⟨at_33, rfl⟩
theorem L_35 : Dc code 35 (.iload 4) 2 37 := ⟨at_35, rfl⟩
theorem L_37 : Dc code 37 (.bipush 6) 2 39 := ⟨at_37, rfl⟩
theorem L_39 : Dc code 39 (.iushr) 1 40 := ⟨at_39, rfl⟩
theorem L_40 : Dc code 40 (.iconst 1) 1 41 := ⟨at_40, rfl⟩
theorem L_41 : Dc code 41 (.iand) 1 42 := ⟨at_41, rfl⟩
theorem L_42 : Dc code 42 (.istore 10) 2 44 := ⟨at_42, rfl⟩
theorem L_44 : Dc code 44 (.new 7) 3 47 := ⟨at_44, rfl⟩
theorem L_47 : Dc code 47 (.dup) 1 48 := ⟨at_47, rfl⟩
theorem L_48 : Dc code 48 (.iconst 2) 1 49 := ⟨at_48, rfl⟩
theorem L_49 : Dc code 49 (.invokespecial 9) 3 52 := ⟨at_49, rfl⟩
theorem L_52 : Dc code 52 (.astore 11) 2 54 := ⟨at_52, rfl⟩
theorem L_54 : Dc code 54 (.aload 11) 2 56 := ⟨at_54, rfl⟩
theorem L_56 : Dc code 56 (.iload 6) 2 58 := ⟨at_56, rfl⟩
theorem L_58 : Dc code 58 (.iload 5) 2 60 := ⟨at_58, rfl⟩
theorem L_60 : Dc code 60 (.iload_n 1) 1 61 := ⟨at_60, rfl⟩
theorem L_61 : Dc code 61 (.invokevirtual 12) 3 64 := ⟨at_61, rfl⟩
theorem L_64 : Dc code 64 (.aload 11) 2 66 := ⟨at_64, rfl⟩
theorem L_66 : Dc code 66 (.iload 8) 2 68 := ⟨at_66, rfl⟩
theorem L_68 : Dc code 68 (.iload 7) 2 70 := ⟨at_68, rfl⟩
theorem L_70 : Dc code 70 (.iload_n 3) 1 71 := ⟨at_70, rfl⟩
theorem L_71 : Dc code 71 (.invokevirtual 12) 3 74 := ⟨at_71, rfl⟩
theorem L_74 : Dc code 74 (.iload_n 1) 1 75 := ⟨at_74, rfl⟩
theorem L_75 : Dc code 75 (.i2s) 1 76 := ⟨at_75, rfl⟩
theorem L_76 : Dc code 76 (.istore 12) 2 78 := ⟨at_76, rfl⟩
theorem L_78 : Dc code 78 (.iload_n 3) 1 79 := ⟨at_78, rfl⟩
theorem L_79 : Dc code 79 (.i2s) 1 80 := ⟨at_79, rfl⟩
theorem L_80 : Dc code 80 (.istore 13) 2 82 := ⟨at_80, rfl⟩
theorem L_82 : Dc code 82 (.iload 6) 2 84 := ⟨at_82, rfl⟩
theorem L_84 : Dc code 84 (.iload 8) 2 86 := ⟨at_84, rfl⟩
theorem L_86 : Db code 86 (.if_icmp .ne 14) (14) 89 100 := ⟨at_86, rfl, by decide, by decide⟩
theorem L_89 : Dc code 89 (.iload 5) 2 91 := ⟨at_89, rfl⟩
theorem L_91 : Dc code 91 (.iload 7) 2 93 := ⟨at_91, rfl⟩
theorem L_93 : Db code 93 (.if_icmp .ne 7) (7) 96 100 := ⟨at_93, rfl, by decide, by decide⟩
theorem L_96 : Dc code 96 (.iconst 1) 1 97 := ⟨at_96, rfl⟩
theorem L_97 : Db code 97 (.goto 4) (4) 100 101 := ⟨at_97, rfl, by decide, by decide⟩
theorem L_100 : Dc code 100 (.iconst 0) 1 101 := ⟨at_100, rfl⟩
theorem L_101 : Dc code 101 (.istore 14) 2 103 := ⟨at_101, rfl⟩
theorem L_103 : Dc code 103 (.iload 12) 2 105 := ⟨at_103, rfl⟩
theorem L_105 : Db code 105 (.ifCond .eq 15) (15) 108 120 := ⟨at_105, rfl, by decide, by decide⟩
theorem L_108 : Dc code 108 (.iload 14) 2 110 := ⟨at_108, rfl⟩
theorem L_110 : Db code 110 (.ifCond .ne 10) (10) 113 120 := ⟨at_110, rfl, by decide, by decide⟩
theorem L_113 : Dc code 113 (.lconst 1) 1 114 := ⟨at_113, rfl⟩
theorem L_114 : Dc code 114 (.iload 5) 2 116 := ⟨at_114, rfl⟩
theorem L_116 : Dc code 116 (.lshl) 1 117 := ⟨at_116, rfl⟩
theorem L_117 : Db code 117 (.goto 4) (4) 120 121 := ⟨at_117, rfl, by decide, by decide⟩
theorem L_120 : Dc code 120 (.lconst 0) 1 121 := ⟨at_120, rfl⟩
theorem L_121 : Dc code 121 (.lstore 15) 2 123 := ⟨at_121, rfl⟩
theorem L_123 : Dc code 123 (.iload 13) 2 125 := ⟨at_123, rfl⟩
theorem L_125 : Db code 125 (.ifCond .eq 10) (10) 128 135 := ⟨at_125, rfl, by decide, by decide⟩
theorem L_128 : Dc code 128 (.lconst 1) 1 129 := ⟨at_128, rfl⟩
theorem L_129 : Dc code 129 (.iload 7) 2 131 := ⟨at_129, rfl⟩
theorem L_131 : Dc code 131 (.lshl) 1 132 := ⟨at_131, rfl⟩
theorem L_132 : Db code 132 (.goto 4) (4) 135 136 := ⟨at_132, rfl, by decide, by decide⟩
theorem L_135 : Dc code 135 (.lconst 0) 1 136 := ⟨at_135, rfl⟩
theorem L_136 : Dc code 136 (.lstore 17) 2 138 := ⟨at_136, rfl⟩
theorem L_138 : Dc code 138 (.iload 6) 2 140 := ⟨at_138, rfl⟩
theorem L_140 : Db code 140 (.ifCond .ne 8) (8) 143 148 := ⟨at_140, rfl, by decide, by decide⟩
theorem L_143 : Dc code 143 (.lload 15) 2 145 := ⟨at_143, rfl⟩
theorem L_145 : Db code 145 (.goto 4) (4) 148 149 := ⟨at_145, rfl, by decide, by decide⟩
theorem L_148 : Dc code 148 (.lconst 0) 1 149 := ⟨at_148, rfl⟩
theorem L_149 : Dc code 149 (.iload 8) 2 151 := ⟨at_149, rfl⟩
theorem L_151 : Db code 151 (.ifCond .ne 8) (8) 154 159 := ⟨at_151, rfl, by decide, by decide⟩
theorem L_154 : Dc code 154 (.lload 17) 2 156 := ⟨at_154, rfl⟩
theorem L_156 : Db code 156 (.goto 4) (4) 159 160 := ⟨at_156, rfl, by decide, by decide⟩
theorem L_159 : Dc code 159 (.lconst 0) 1 160 := ⟨at_159, rfl⟩
theorem L_160 : Dc code 160 (.lor) 1 161 := ⟨at_160, rfl⟩
theorem L_161 : Dc code 161 (.lstore 19) 2 163 := ⟨at_161, rfl⟩
theorem L_163 : Dc code 163 (.iload 6) 2 165 := ⟨at_163, rfl⟩
theorem L_165 : Dc code 165 (.iconst 1) 1 166 := ⟨at_165, rfl⟩
theorem L_166 : Db code 166 (.if_icmp .ne 8) (8) 169 174 := ⟨at_166, rfl, by decide, by decide⟩
theorem L_169 : Dc code 169 (.lload 15) 2 171 := ⟨at_169, rfl⟩
theorem L_171 : Db code 171 (.goto 4) (4) 174 175 := ⟨at_171, rfl, by decide, by decide⟩
theorem L_174 : Dc code 174 (.lconst 0) 1 175 := ⟨at_174, rfl⟩
theorem L_175 : Dc code 175 (.iload 8) 2 177 := ⟨at_175, rfl⟩
theorem L_177 : Dc code 177 (.iconst 1) 1 178 := ⟨at_177, rfl⟩
theorem L_178 : Db code 178 (.if_icmp .ne 8) (8) 181 186 := ⟨at_178, rfl, by decide, by decide⟩
theorem L_181 : Dc code 181 (.lload 17) 2 183 := ⟨at_181, rfl⟩
theorem L_183 : Db code 183 (.goto 4) (4) 186 187 := ⟨at_183, rfl, by decide, by decide⟩
theorem L_186 : Dc code 186 (.lconst 0) 1 187 := ⟨at_186, rfl⟩
theorem L_187 : Dc code 187 (.lor) 1 188 := ⟨at_187, rfl⟩
theorem L_188 : Dc code 188 (.lstore 21) 2 190 := ⟨at_188, rfl⟩
theorem L_190 : Dc code 190 (.iload 10) 2 192 := ⟨at_190, rfl⟩
theorem L_192 : Dc code 192 (.iload 8) 2 194 := ⟨at_192, rfl⟩
theorem L_194 : Db code 194 (.if_icmp .ne 17) (17) 197 211 := ⟨at_194, rfl, by decide, by decide⟩
theorem L_197 : Dc code 197 (.iload 9) 2 199 := ⟨at_197, rfl⟩
theorem L_199 : Dc code 199 (.iload 7) 2 201 := ⟨at_199, rfl⟩
theorem L_201 : Db code 201 (.if_icmp .ne 10) (10) 204 211 := ⟨at_201, rfl, by decide, by decide⟩
theorem L_204 : Dc code 204 (.iload 13) 2 206 := ⟨at_204, rfl⟩
theorem L_206 : Dc code 206 (.istore 23) 2 208 := ⟨at_206, rfl⟩
theorem L_208 : Db code 208 (.goto 27) (27) 211 235 := ⟨at_208, rfl, by decide, by decide⟩
theorem L_211 : Dc code 211 (.iload 10) 2 213 := ⟨at_211, rfl⟩
theorem L_213 : Dc code 213 (.iload 6) 2 215 := ⟨at_213, rfl⟩
theorem L_215 : Db code 215 (.if_icmp .ne 17) (17) 218 232 := ⟨at_215, rfl, by decide, by decide⟩
theorem L_218 : Dc code 218 (.iload 9) 2 220 := ⟨at_218, rfl⟩
theorem L_220 : Dc code 220 (.iload 5) 2 222 := ⟨at_220, rfl⟩
theorem L_222 : Db code 222 (.if_icmp .ne 10) (10) 225 232 := ⟨at_222, rfl, by decide, by decide⟩
theorem L_225 : Dc code 225 (.iload 12) 2 227 := ⟨at_225, rfl⟩
theorem L_227 : Dc code 227 (.istore 23) 2 229 := ⟨at_227, rfl⟩
theorem L_229 : Db code 229 (.goto 6) (6) 232 235 := ⟨at_229, rfl, by decide, by decide⟩
theorem L_232 : Dc code 232 (.iconst 0) 1 233 := ⟨at_232, rfl⟩
theorem L_233 : Dc code 233 (.istore 23) 2 235 := ⟨at_233, rfl⟩
theorem L_235 : Dc code 235 (.iload 14) 2 237 := ⟨at_235, rfl⟩
theorem L_237 : Db code 237 (.ifCond .eq 8) (8) 240 245 := ⟨at_237, rfl, by decide, by decide⟩
theorem L_240 : Dc code 240 (.iload 13) 2 242 := ⟨at_240, rfl⟩
theorem L_242 : Db code 242 (.goto 5) (5) 245 247 := ⟨at_242, rfl, by decide, by decide⟩
theorem L_245 : Dc code 245 (.iload 12) 2 247 := ⟨at_245, rfl⟩
theorem L_247 : Dc code 247 (.istore 24) 2 249 := ⟨at_247, rfl⟩
theorem L_249 : Dc code 249 (.aload 11) 2 251 := ⟨at_249, rfl⟩
theorem L_251 : Dc code 251 (.getfield 16) 3 254 := ⟨at_251, rfl⟩
theorem L_254 : Dc code 254 (.arraylength) 1 255 := ⟨at_254, rfl⟩
theorem L_255 : Dc code 255 (.iconst 2) 1 256 := ⟨at_255, rfl⟩
theorem L_256 : Db code 256 (.if_icmp .ne 102) (102) 259 358 := ⟨at_256, rfl, by decide, by decide⟩
theorem L_259 : Dc code 259 (.aload 11) 2 261 := ⟨at_259, rfl⟩
theorem L_261 : Dc code 261 (.getfield 20) 3 264 := ⟨at_261, rfl⟩
theorem L_264 : Dc code 264 (.arraylength) 1 265 := ⟨at_264, rfl⟩
theorem L_265 : Dc code 265 (.sipush 128) 3 268 := ⟨at_265, rfl⟩
theorem L_268 : Db code 268 (.if_icmp .ne 90) (90) 271 358 := ⟨at_268, rfl, by decide, by decide⟩
theorem L_271 : Dc code 271 (.aload 11) 2 273 := ⟨at_271, rfl⟩
theorem L_273 : Dc code 273 (.getfield 16) 3 276 := ⟨at_273, rfl⟩
theorem L_276 : Dc code 276 (.iconst 0) 1 277 := ⟨at_276, rfl⟩
theorem L_277 : Dc code 277 (.laload) 1 278 := ⟨at_277, rfl⟩
theorem L_278 : Dc code 278 (.lload 19) 2 280 := ⟨at_278, rfl⟩
theorem L_280 : Dc code 280 (.lcmp) 1 281 := ⟨at_280, rfl⟩
theorem L_281 : Db code 281 (.ifCond .ne 77) (77) 284 358 := ⟨at_281, rfl, by decide, by decide⟩
theorem L_284 : Dc code 284 (.aload 11) 2 286 := ⟨at_284, rfl⟩
theorem L_286 : Dc code 286 (.getfield 16) 3 289 := ⟨at_286, rfl⟩
theorem L_289 : Dc code 289 (.iconst 1) 1 290 := ⟨at_289, rfl⟩
theorem L_290 : Dc code 290 (.laload) 1 291 := ⟨at_290, rfl⟩
theorem L_291 : Dc code 291 (.lload 21) 2 293 := ⟨at_291, rfl⟩
theorem L_293 : Dc code 293 (.lcmp) 1 294 := ⟨at_293, rfl⟩
theorem L_294 : Db code 294 (.ifCond .ne 64) (64) 297 358 := ⟨at_294, rfl, by decide, by decide⟩
theorem L_297 : Dc code 297 (.aload 11) 2 299 := ⟨at_297, rfl⟩
theorem L_299 : Dc code 299 (.getfield 20) 3 302 := ⟨at_299, rfl⟩
theorem L_302 : Dc code 302 (.bipush 64) 2 304 := ⟨at_302, rfl⟩
theorem L_304 : Dc code 304 (.iload 6) 2 306 := ⟨at_304, rfl⟩
theorem L_306 : Dc code 306 (.imul) 1 307 := ⟨at_306, rfl⟩
theorem L_307 : Dc code 307 (.iload 5) 2 309 := ⟨at_307, rfl⟩
theorem L_309 : Dc code 309 (.iadd) 1 310 := ⟨at_309, rfl⟩
theorem L_310 : Dc code 310 (.saload) 1 311 := ⟨at_310, rfl⟩
theorem L_311 : Dc code 311 (.iload 24) 2 313 := ⟨at_311, rfl⟩
theorem L_313 : Db code 313 (.if_icmp .ne 45) (45) 316 358 := ⟨at_313, rfl, by decide, by decide⟩
theorem L_316 : Dc code 316 (.aload 11) 2 318 := ⟨at_316, rfl⟩
theorem L_318 : Dc code 318 (.getfield 20) 3 321 := ⟨at_318, rfl⟩
theorem L_321 : Dc code 321 (.bipush 64) 2 323 := ⟨at_321, rfl⟩
theorem L_323 : Dc code 323 (.iload 8) 2 325 := ⟨at_323, rfl⟩
theorem L_325 : Dc code 325 (.imul) 1 326 := ⟨at_325, rfl⟩
theorem L_326 : Dc code 326 (.iload 7) 2 328 := ⟨at_326, rfl⟩
theorem L_328 : Dc code 328 (.iadd) 1 329 := ⟨at_328, rfl⟩
theorem L_329 : Dc code 329 (.saload) 1 330 := ⟨at_329, rfl⟩
theorem L_330 : Dc code 330 (.iload 13) 2 332 := ⟨at_330, rfl⟩
theorem L_332 : Db code 332 (.if_icmp .ne 26) (26) 335 358 := ⟨at_332, rfl, by decide, by decide⟩
theorem L_335 : Dc code 335 (.aload 11) 2 337 := ⟨at_335, rfl⟩
theorem L_337 : Dc code 337 (.getfield 20) 3 340 := ⟨at_337, rfl⟩
theorem L_340 : Dc code 340 (.bipush 64) 2 342 := ⟨at_340, rfl⟩
theorem L_342 : Dc code 342 (.iload 10) 2 344 := ⟨at_342, rfl⟩
theorem L_344 : Dc code 344 (.imul) 1 345 := ⟨at_344, rfl⟩
theorem L_345 : Dc code 345 (.iload 9) 2 347 := ⟨at_345, rfl⟩
theorem L_347 : Dc code 347 (.iadd) 1 348 := ⟨at_347, rfl⟩
theorem L_348 : Dc code 348 (.saload) 1 349 := ⟨at_348, rfl⟩
theorem L_349 : Dc code 349 (.iload 23) 2 351 := ⟨at_349, rfl⟩
theorem L_351 : Db code 351 (.if_icmp .ne 7) (7) 354 358 := ⟨at_351, rfl, by decide, by decide⟩
theorem L_354 : Dc code 354 (.iconst 1) 1 355 := ⟨at_354, rfl⟩
theorem L_355 : Db code 355 (.goto 4) (4) 358 359 := ⟨at_355, rfl, by decide, by decide⟩
theorem L_358 : Dc code 358 (.iconst 0) 1 359 := ⟨at_358, rfl⟩
theorem L_359 : Dc code 359 (.ireturn) 1 360 := ⟨at_359, rfl⟩
theorem ef_L (m : MethodId) (i0 : Int32) (i1 : Int32) (i2 : Int32) (i3 : Int32) (i4 : Int32) : entryFrame m #[(.int i0), (.int i1), (.int i2), (.int i3), (.int i4)] maxLocals = mkF m 0 #[.val (.int i0), .val (.int i1), .val (.int i2), .val (.int i3), .val (.int i4), .unset, .unset, .unset, .unset, .unset, .unset, .unset, .unset, .unset, .unset, .unset, .unset, .unset, .unset, .unset, .unset, .unset, .unset, .unset, .unset] [] := by first | (simp [entryFrame, mkF, argsToLocals, Value.category, maxLocals]; done) | rfl
set_option maxRecDepth 65536 in
set_option maxHeartbeats 40000000 in
theorem con_L (l : Launch) (Z : State) (a0 : Array Value) (hw : Tb tables_1 a0 Z) (i0 : Int32) (i1 : Int32) (i2 : Int32) (i3 : Int32) (i4 : Int32) (h0 : Heap) (n0 : Nat) (Z0 : n0 ≤ h0.size)  :
    Con l Z x code maxLocals ret room_1 #[(.int i0), (.int i1), (.int i2), (.int i3), (.int i4)] h0 n0 (fun v _ => v = some (.int 1)) := by
  refine Con.of (plainFor_of_name (by decide +kernel)) Z0 ?_
  intro K hl hZ hn cx T0 X0
  subst hl hZ hn
  refine Run.cast (ef_L K.m i0 i1 i2 i3 i4) ?_
  refine r_iloadN X0 cx L_0 rfl ?_
  refine r_bipush (63) X0 cx L_1 rfl ?_
  refine r_iand X0 cx L_3 ?_
  refine r_istore (fun zz => #[.val (.int i0), .val (.int i1), .val (.int i2), .val (.int i3), .val (.int i4), .val (.int zz), .unset, .unset, .unset, .unset, .unset, .unset, .unset, .unset, .unset, .unset, .unset, .unset, .unset, .unset, .unset, .unset, .unset, .unset, .unset]) X0 cx L_4 (fun _ => rfl) (fun k1 e_k1 => ?_)
  refine r_iloadN X0 cx L_6 rfl ?_
  refine r_bipush (6) X0 cx L_7 rfl ?_
  refine r_iushr X0 cx L_9 ?_
  refine r_iconst (1) X0 cx L_10 rfl ?_
  refine r_iand X0 cx L_11 ?_
  refine r_istore (fun zz => #[.val (.int i0), .val (.int i1), .val (.int i2), .val (.int i3), .val (.int i4), .val (.int k1), .val (.int zz), .unset, .unset, .unset, .unset, .unset, .unset, .unset, .unset, .unset, .unset, .unset, .unset, .unset, .unset, .unset, .unset, .unset, .unset]) X0 cx L_12 (fun _ => rfl) (fun b1 e_b1 => ?_)
  refine r_iloadN X0 cx L_14 rfl ?_
  refine r_bipush (63) X0 cx L_15 rfl ?_
  refine r_iand X0 cx L_17 ?_
  refine r_istore (fun zz => #[.val (.int i0), .val (.int i1), .val (.int i2), .val (.int i3), .val (.int i4), .val (.int k1), .val (.int b1), .val (.int zz), .unset, .unset, .unset, .unset, .unset, .unset, .unset, .unset, .unset, .unset, .unset, .unset, .unset, .unset, .unset, .unset, .unset]) X0 cx L_18 (fun _ => rfl) (fun k2 e_k2 => ?_)
  refine r_iloadN X0 cx L_20 rfl ?_
  refine r_bipush (6) X0 cx L_21 rfl ?_
  refine r_iushr X0 cx L_23 ?_
  refine r_iconst (1) X0 cx L_24 rfl ?_
  refine r_iand X0 cx L_25 ?_
  refine r_istore (fun zz => #[.val (.int i0), .val (.int i1), .val (.int i2), .val (.int i3), .val (.int i4), .val (.int k1), .val (.int b1), .val (.int k2), .val (.int zz), .unset, .unset, .unset, .unset, .unset, .unset, .unset, .unset, .unset, .unset, .unset, .unset, .unset, .unset, .unset, .unset]) X0 cx L_26 (fun _ => rfl) (fun b2 e_b2 => ?_)
  refine r_iload X0 cx L_28 rfl ?_
  refine r_bipush (63) X0 cx L_30 rfl ?_
  refine r_iand X0 cx L_32 ?_
  refine r_istore (fun zz => #[.val (.int i0), .val (.int i1), .val (.int i2), .val (.int i3), .val (.int i4), .val (.int k1), .val (.int b1), .val (.int k2), .val (.int b2), .val (.int zz), .unset, .unset, .unset, .unset, .unset, .unset, .unset, .unset, .unset, .unset, .unset, .unset, .unset, .unset, .unset]) X0 cx L_33 (fun _ => rfl) (fun k3 e_k3 => ?_)
  refine r_iload X0 cx L_35 rfl ?_
  refine r_bipush (6) X0 cx L_37 rfl ?_
  refine r_iushr X0 cx L_39 ?_
  refine r_iconst (1) X0 cx L_40 rfl ?_
  refine r_iand X0 cx L_41 ?_
  refine r_istore (fun zz => #[.val (.int i0), .val (.int i1), .val (.int i2), .val (.int i3), .val (.int i4), .val (.int k1), .val (.int b1), .val (.int k2), .val (.int b2), .val (.int k3), .val (.int zz), .unset, .unset, .unset, .unset, .unset, .unset, .unset, .unset, .unset, .unset, .unset, .unset, .unset, .unset]) X0 cx L_42 (fun _ => rfl) (fun b3 e_b3 => ?_)
  obtain ⟨nk1, hk1, q1⟩ := own_mk i0 63 (by decide)
  have ek1 : k1 = Int32.ofNat nk1 := e_k1.trans q1
  obtain ⟨nb1, hb1, p1⟩ := own_mk (XT.ushr i0 6) 1 (by decide)
  have eb1 : b1 = Int32.ofNat nb1 := e_b1.trans p1
  clear q1 p1 e_k1 e_b1
  obtain ⟨nk2, hk2, q2⟩ := own_mk i2 63 (by decide)
  have ek2 : k2 = Int32.ofNat nk2 := e_k2.trans q2
  obtain ⟨nb2, hb2, p2⟩ := own_mk (XT.ushr i2 6) 1 (by decide)
  have eb2 : b2 = Int32.ofNat nb2 := e_b2.trans p2
  clear q2 p2 e_k2 e_b2
  obtain ⟨nk3, hk3, q3⟩ := own_mk i4 63 (by decide)
  have ek3 : k3 = Int32.ofNat nk3 := e_k3.trans q3
  obtain ⟨nb3, hb3, p3⟩ := own_mk (XT.ushr i4 6) 1 (by decide)
  have eb3 : b3 = Int32.ofNat nb3 := e_b3.trans p3
  clear q3 p3 e_k3 e_b3
  refine r_new X0 cx L_44 (hw.get 0 rfl) (hw.get 1 rfl) (hw.get 2 rfl) (by decide) (by decide) (fun T1 h1 o ea1 g_o X1 Ex1 E_o D1 => ?_)
  have F_coefficients_o := D1 (Or.inr (hw.get 11 rfl)) (ty := .array .short) (by decide)
  have F_nonzero_o := D1 (Or.inr (hw.get 14 rfl)) (ty := .array .long) (by decide)
  refine r_dup X1 cx L_47 rfl ?_
  refine r_iconst (2) X1 cx L_48 rfl ?_
  refine r_special [(.int (2 : Int32))] [(.ref o)] X1 cx L_49 rfl (hw.get 3 rfl) (hw.get 4 rfl) (hw.get 2 rfl) (hw.get 5 rfl) (by decide) (con_P32m1 K.l K.Z a0 hw o h1 K.n0 X1.ge E_o F_coefficients_o F_nonzero_o g_o) (lenOf pd_0 rfl) rfl rfl (by decide) (leb rfl) (by decide) (by decide) (fun T2 h2 v2 X2 q2 => ?_) (fun _ _ q => q.1)
  obtain ⟨z2, rfl, ac, an, g_ac, g_an, B⟩ := q2
  refine r_astore #[.val (.int i0), .val (.int i1), .val (.int i2), .val (.int i3), .val (.int i4), .val (.int k1), .val (.int b1), .val (.int k2), .val (.int b2), .val (.int k3), .val (.int b3), .val (.ref o), .unset, .unset, .unset, .unset, .unset, .unset, .unset, .unset, .unset, .unset, .unset, .unset, .unset] X2 cx L_52 rfl ?_
  refine r_aload X2 cx L_54 rfl ?_
  refine r_iload X2 cx L_56 rfl ?_
  refine r_iload X2 cx L_58 rfl ?_
  refine r_iloadN X2 cx L_60 rfl ?_
  refine r_virtual [(.int b1), (.int k1), (.int i1)] [] X2 cx L_61 B.1 (hw.get 15 rfl) (hw.get 16 rfl) (hw.get 18 rfl) (hw.get 17 rfl) (hw.get 2 rfl) (hw.get 19 rfl) (by decide) (con_P32m2 K.l K.Z a0 hw o b1 k1 i1 h2 K.n0 X2.ge ac an (List.replicate 128 0) [0, 0] nb1 nk1 B eb1 ek1 (by simp [own_nz1]; omega) (by simp; omega) g_ac g_an) (lenOf pd_1 rfl) rfl rfl (by decide) (leb rfl) (by decide) (by decide) (fun T3 h3 v3 X3 q3 => ?_) (fun _ _ q => q.1)
  obtain ⟨z3, rfl, B⟩ := q3
  rw [ek1] at B
  replace B : BR K.Z h3 o ac an ((List.replicate 128 0).set (64 * nb1 + nk1) (Int16.toInt32 (Int32.toInt16 i1))) (own_nz1 nb1 nk1 (Int16.toInt32 (Int32.toInt16 i1))) := B
  refine r_aload X3 cx L_64 rfl ?_
  refine r_iload X3 cx L_66 rfl ?_
  refine r_iload X3 cx L_68 rfl ?_
  refine r_iloadN X3 cx L_70 rfl ?_
  refine r_virtual [(.int b2), (.int k2), (.int i3)] [] X3 cx L_71 B.1 (hw.get 15 rfl) (hw.get 16 rfl) (hw.get 18 rfl) (hw.get 17 rfl) (hw.get 2 rfl) (hw.get 19 rfl) (by decide) (con_P32m2 K.l K.Z a0 hw o b2 k2 i3 h3 K.n0 X3.ge ac an ((List.replicate 128 0).set (64 * nb1 + nk1) (Int16.toInt32 (Int32.toInt16 i1))) (own_nz1 nb1 nk1 (Int16.toInt32 (Int32.toInt16 i1))) nb2 nk2 B eb2 ek2 (by simp [own_nz1]; omega) (by simp; omega) g_ac g_an) (lenOf pd_1 rfl) rfl rfl (by decide) (leb rfl) (by decide) (by decide) (fun T4 h4 v4 X4 q4 => ?_) (fun _ _ q => q.1)
  obtain ⟨z4, rfl, B⟩ := q4
  rw [ek2] at B
  replace B : BR K.Z h4 o ac an (own_cs2 (64 * nb1 + nk1) (64 * nb2 + nk2) (Int16.toInt32 (Int32.toInt16 i1)) (Int16.toInt32 (Int32.toInt16 i3))) (own_nz2 nb1 nk1 nb2 nk2 (Int16.toInt32 (Int32.toInt16 i1)) (Int16.toInt32 (Int32.toInt16 i3))) := B
  obtain ⟨E_o, F_co, F_nz, A_ac, A_an, -⟩ := B
  refine r_iloadN X4 cx L_74 rfl ?_
  refine r_i2s X4 cx L_75 ?_
  refine r_istore (fun zz => #[.val (.int i0), .val (.int i1), .val (.int i2), .val (.int i3), .val (.int i4), .val (.int k1), .val (.int b1), .val (.int k2), .val (.int b2), .val (.int k3), .val (.int b3), .val (.ref o), .val (.int zz), .unset, .unset, .unset, .unset, .unset, .unset, .unset, .unset, .unset, .unset, .unset, .unset]) X4 cx L_76 (fun _ => rfl) (fun s1 e_s1 => ?_)
  refine r_iloadN X4 cx L_78 rfl ?_
  refine r_i2s X4 cx L_79 ?_
  refine r_istore (fun zz => #[.val (.int i0), .val (.int i1), .val (.int i2), .val (.int i3), .val (.int i4), .val (.int k1), .val (.int b1), .val (.int k2), .val (.int b2), .val (.int k3), .val (.int b3), .val (.ref o), .val (.int s1), .val (.int zz), .unset, .unset, .unset, .unset, .unset, .unset, .unset, .unset, .unset, .unset, .unset]) X4 cx L_80 (fun _ => rfl) (fun s2 e_s2 => ?_)
  have jb12 : b1 = b2 ↔ nb1 = nb2 := by rw [eb1, eb2]; exact own_inj (by omega) (by omega)
  have jk12 : k1 = k2 ↔ nk1 = nk2 := by rw [ek1, ek2]; exact own_inj (by omega) (by omega)
  have jb32 : b3 = b2 ↔ nb3 = nb2 := by rw [eb3, eb2]; exact own_inj (by omega) (by omega)
  have jk32 : k3 = k2 ↔ nk3 = nk2 := by rw [ek3, ek2]; exact own_inj (by omega) (by omega)
  have jb31 : b3 = b1 ↔ nb3 = nb1 := by rw [eb3, eb1]; exact own_inj (by omega) (by omega)
  have jk31 : k3 = k1 ↔ nk3 = nk1 := by rw [ek3, ek1]; exact own_inj (by omega) (by omega)
  have jb1z : b1 = 0 ↔ nb1 = 0 := by rw [eb1]; exact own_inj (b := 0) (by omega) (by omega)
  have jb1o : b1 = 1 ↔ nb1 = 1 := by rw [eb1]; exact own_inj (b := 1) (by omega) (by omega)
  have jb2z : b2 = 0 ↔ nb2 = 0 := by rw [eb2]; exact own_inj (b := 0) (by omega) (by omega)
  have jb2o : b2 = 1 ↔ nb2 = 1 := by rw [eb2]; exact own_inj (b := 1) (by omega) (by omega)
  have kj101 : (∀ v : Int32, (((v = 1 ∧ nb1 = nb2 ∧ nk1 = nk2) ∨ (v = 0 ∧ ¬ (nb1 = nb2 ∧ nk1 = nk2)))) → Run K (fun v _ => v = some (.int 1)) T4 (mkF K.m 101 #[.val (.int i0), .val (.int i1), .val (.int i2), .val (.int i3), .val (.int i4), .val (.int k1), .val (.int b1), .val (.int k2), .val (.int b2), .val (.int k3), .val (.int b3), .val (.ref o), .val (.int s1), .val (.int s2), .unset, .unset, .unset, .unset, .unset, .unset, .unset, .unset, .unset, .unset, .unset] (.int v :: []))) → Run K (fun v _ => v = some (.int 1)) T4 (mkF K.m 82 #[.val (.int i0), .val (.int i1), .val (.int i2), .val (.int i3), .val (.int i4), .val (.int k1), .val (.int b1), .val (.int k2), .val (.int b2), .val (.int k3), .val (.int b3), .val (.ref o), .val (.int s1), .val (.int s2), .unset, .unset, .unset, .unset, .unset, .unset, .unset, .unset, .unset, .unset, .unset] []) := by
    intro kj
    refine r_iload X4 cx L_82 rfl ?_
    refine r_iload X4 cx L_84 rfl ?_
    refine r_icmpne X4 cx L_86 (fun c86 => ?_) (fun c86 => ?_)
    · refine r_iconst (0) X4 cx L_100 rfl ?_
      exact kj _ (Or.inr ⟨rfl, fun q => c86 (jb12.mpr q.1)⟩)
    · refine r_iload X4 cx L_89 rfl ?_
      refine r_iload X4 cx L_91 rfl ?_
      refine r_icmpne X4 cx L_93 (fun c93 => ?_) (fun c93 => ?_)
      · refine r_iconst (0) X4 cx L_100 rfl ?_
        exact kj _ (Or.inr ⟨rfl, fun q => c93 (jk12.mpr q.2)⟩)
      · refine r_iconst (1) X4 cx L_96 rfl ?_
        refine r_goto X4 cx L_97 ?_
        exact kj _ (Or.inl ⟨rfl, jb12.mp c86, jk12.mp c93⟩)
  refine kj101 (fun sm p_sm => ?_)
  refine r_istore (fun zz => #[.val (.int i0), .val (.int i1), .val (.int i2), .val (.int i3), .val (.int i4), .val (.int k1), .val (.int b1), .val (.int k2), .val (.int b2), .val (.int k3), .val (.int b3), .val (.ref o), .val (.int s1), .val (.int s2), .val (.int zz), .unset, .unset, .unset, .unset, .unset, .unset, .unset, .unset, .unset, .unset]) X4 cx L_101 (fun _ => rfl) (fun sm e_sm => ?_)
  replace e_sm := e_sm.symm
  subst e_sm
  have kj121 : (∀ v : Int64, (v = if ¬ s1 = 0 ∧ ¬ (nb1 = nb2 ∧ nk1 = nk2) then own_bit (Int32.ofNat nk1) else 0) → Run K (fun v _ => v = some (.int 1)) T4 (mkF K.m 121 #[.val (.int i0), .val (.int i1), .val (.int i2), .val (.int i3), .val (.int i4), .val (.int k1), .val (.int b1), .val (.int k2), .val (.int b2), .val (.int k3), .val (.int b3), .val (.ref o), .val (.int s1), .val (.int s2), .val (.int sm), .unset, .unset, .unset, .unset, .unset, .unset, .unset, .unset, .unset, .unset] (.long v :: []))) → Run K (fun v _ => v = some (.int 1)) T4 (mkF K.m 103 #[.val (.int i0), .val (.int i1), .val (.int i2), .val (.int i3), .val (.int i4), .val (.int k1), .val (.int b1), .val (.int k2), .val (.int b2), .val (.int k3), .val (.int b3), .val (.ref o), .val (.int s1), .val (.int s2), .val (.int sm), .unset, .unset, .unset, .unset, .unset, .unset, .unset, .unset, .unset, .unset] []) := by
    intro kj
    refine r_iload X4 cx L_103 rfl ?_
    refine r_ifeq X4 cx L_105 (fun c105 => ?_) (fun c105 => ?_)
    · refine r_lconst (0) X4 cx L_120 rfl ?_
      exact kj _ (if_neg (fun q => q.1 c105)).symm
    · refine r_iload X4 cx L_108 rfl ?_
      refine r_ifne X4 cx L_110 (fun c110 => ?_) (fun c110 => ?_)
      · refine r_lconst (0) X4 cx L_120 rfl ?_
        exact kj _ (by
          rcases p_sm with ⟨_, h1⟩ | ⟨h0, _⟩
          · rw [if_neg (fun q => q.2 h1)]
          · exact absurd h0 c110)
      · refine r_lconst (1) X4 cx L_113 rfl ?_
        refine r_iload X4 cx L_114 rfl ?_
        refine r_lshl X4 cx L_116 ?_
        refine r_goto X4 cx L_117 ?_
        exact kj _ (by
          rcases p_sm with ⟨h0, _⟩ | ⟨_, h1⟩
          · exact absurd (h0.symm.trans c110) (by decide)
          · exact Eq.trans (b := own_bit (Int32.ofNat nk1)) (by rw [← ek1]; rfl) (if_pos ⟨c105, h1⟩).symm)
  refine kj121 (fun w1 p_w1 => ?_)
  refine r_lstore (fun zz => #[.val (.int i0), .val (.int i1), .val (.int i2), .val (.int i3), .val (.int i4), .val (.int k1), .val (.int b1), .val (.int k2), .val (.int b2), .val (.int k3), .val (.int b3), .val (.ref o), .val (.int s1), .val (.int s2), .val (.int sm), .val (.long zz), .second, .unset, .unset, .unset, .unset, .unset, .unset, .unset, .unset]) X4 cx L_121 (fun _ => rfl) (fun w1 e_w1 => ?_)
  replace e_w1 := e_w1.symm
  subst e_w1
  have kj136 : (∀ v : Int64, (v = if ¬ s2 = 0 then own_bit (Int32.ofNat nk2) else 0) → Run K (fun v _ => v = some (.int 1)) T4 (mkF K.m 136 #[.val (.int i0), .val (.int i1), .val (.int i2), .val (.int i3), .val (.int i4), .val (.int k1), .val (.int b1), .val (.int k2), .val (.int b2), .val (.int k3), .val (.int b3), .val (.ref o), .val (.int s1), .val (.int s2), .val (.int sm), .val (.long w1), .second, .unset, .unset, .unset, .unset, .unset, .unset, .unset, .unset] (.long v :: []))) → Run K (fun v _ => v = some (.int 1)) T4 (mkF K.m 123 #[.val (.int i0), .val (.int i1), .val (.int i2), .val (.int i3), .val (.int i4), .val (.int k1), .val (.int b1), .val (.int k2), .val (.int b2), .val (.int k3), .val (.int b3), .val (.ref o), .val (.int s1), .val (.int s2), .val (.int sm), .val (.long w1), .second, .unset, .unset, .unset, .unset, .unset, .unset, .unset, .unset] []) := by
    intro kj
    refine r_iload X4 cx L_123 rfl ?_
    refine r_ifeq X4 cx L_125 (fun c125 => ?_) (fun c125 => ?_)
    · refine r_lconst (0) X4 cx L_135 rfl ?_
      exact kj _ (if_neg (fun q => q c125)).symm
    · refine r_lconst (1) X4 cx L_128 rfl ?_
      refine r_iload X4 cx L_129 rfl ?_
      refine r_lshl X4 cx L_131 ?_
      refine r_goto X4 cx L_132 ?_
      exact kj _ (Eq.trans (b := own_bit (Int32.ofNat nk2)) (by rw [← ek2]; rfl) (if_pos c125).symm)
  refine kj136 (fun w2 p_w2 => ?_)
  refine r_lstore (fun zz => #[.val (.int i0), .val (.int i1), .val (.int i2), .val (.int i3), .val (.int i4), .val (.int k1), .val (.int b1), .val (.int k2), .val (.int b2), .val (.int k3), .val (.int b3), .val (.ref o), .val (.int s1), .val (.int s2), .val (.int sm), .val (.long w1), .second, .val (.long zz), .second, .unset, .unset, .unset, .unset, .unset, .unset]) X4 cx L_136 (fun _ => rfl) (fun w2 e_w2 => ?_)
  replace e_w2 := e_w2.symm
  subst e_w2
  have kj149 : (∀ v : Int64, (v = if nb1 = 0 then w1 else 0) → Run K (fun v _ => v = some (.int 1)) T4 (mkF K.m 149 #[.val (.int i0), .val (.int i1), .val (.int i2), .val (.int i3), .val (.int i4), .val (.int k1), .val (.int b1), .val (.int k2), .val (.int b2), .val (.int k3), .val (.int b3), .val (.ref o), .val (.int s1), .val (.int s2), .val (.int sm), .val (.long w1), .second, .val (.long w2), .second, .unset, .unset, .unset, .unset, .unset, .unset] (.long v :: []))) → Run K (fun v _ => v = some (.int 1)) T4 (mkF K.m 138 #[.val (.int i0), .val (.int i1), .val (.int i2), .val (.int i3), .val (.int i4), .val (.int k1), .val (.int b1), .val (.int k2), .val (.int b2), .val (.int k3), .val (.int b3), .val (.ref o), .val (.int s1), .val (.int s2), .val (.int sm), .val (.long w1), .second, .val (.long w2), .second, .unset, .unset, .unset, .unset, .unset, .unset] []) := by
    intro kj
    refine r_iload X4 cx L_138 rfl ?_
    refine r_ifne X4 cx L_140 (fun c140 => ?_) (fun c140 => ?_)
    · refine r_lconst (0) X4 cx L_148 rfl ?_
      exact kj _ (if_neg (fun q => c140 (jb1z.mpr q))).symm
    · refine r_lload X4 cx L_143 rfl ?_
      refine r_goto X4 cx L_145 ?_
      exact kj _ (if_pos (jb1z.mp c140)).symm
  refine kj149 (fun x1 p_x1 => ?_)
  have kj160 : (∀ v : Int64, (v = if nb2 = 0 then w2 else 0) → Run K (fun v _ => v = some (.int 1)) T4 (mkF K.m 160 #[.val (.int i0), .val (.int i1), .val (.int i2), .val (.int i3), .val (.int i4), .val (.int k1), .val (.int b1), .val (.int k2), .val (.int b2), .val (.int k3), .val (.int b3), .val (.ref o), .val (.int s1), .val (.int s2), .val (.int sm), .val (.long w1), .second, .val (.long w2), .second, .unset, .unset, .unset, .unset, .unset, .unset] (.long v :: [(.long x1)]))) → Run K (fun v _ => v = some (.int 1)) T4 (mkF K.m 149 #[.val (.int i0), .val (.int i1), .val (.int i2), .val (.int i3), .val (.int i4), .val (.int k1), .val (.int b1), .val (.int k2), .val (.int b2), .val (.int k3), .val (.int b3), .val (.ref o), .val (.int s1), .val (.int s2), .val (.int sm), .val (.long w1), .second, .val (.long w2), .second, .unset, .unset, .unset, .unset, .unset, .unset] [(.long x1)]) := by
    intro kj
    refine r_iload X4 cx L_149 rfl ?_
    refine r_ifne X4 cx L_151 (fun c151 => ?_) (fun c151 => ?_)
    · refine r_lconst (0) X4 cx L_159 rfl ?_
      exact kj _ (if_neg (fun q => c151 (jb2z.mpr q))).symm
    · refine r_lload X4 cx L_154 rfl ?_
      refine r_goto X4 cx L_156 ?_
      exact kj _ (if_pos (jb2z.mp c151)).symm
  refine kj160 (fun x2 p_x2 => ?_)
  refine r_lor X4 cx L_160 ?_
  refine r_lstore (fun zz => #[.val (.int i0), .val (.int i1), .val (.int i2), .val (.int i3), .val (.int i4), .val (.int k1), .val (.int b1), .val (.int k2), .val (.int b2), .val (.int k3), .val (.int b3), .val (.ref o), .val (.int s1), .val (.int s2), .val (.int sm), .val (.long w1), .second, .val (.long w2), .second, .val (.long zz), .second, .unset, .unset, .unset, .unset]) X4 cx L_161 (fun _ => rfl) (fun e0 e_e0 => ?_)
  have kj175 : (∀ v : Int64, (v = if nb1 = 1 then w1 else 0) → Run K (fun v _ => v = some (.int 1)) T4 (mkF K.m 175 #[.val (.int i0), .val (.int i1), .val (.int i2), .val (.int i3), .val (.int i4), .val (.int k1), .val (.int b1), .val (.int k2), .val (.int b2), .val (.int k3), .val (.int b3), .val (.ref o), .val (.int s1), .val (.int s2), .val (.int sm), .val (.long w1), .second, .val (.long w2), .second, .val (.long e0), .second, .unset, .unset, .unset, .unset] (.long v :: []))) → Run K (fun v _ => v = some (.int 1)) T4 (mkF K.m 163 #[.val (.int i0), .val (.int i1), .val (.int i2), .val (.int i3), .val (.int i4), .val (.int k1), .val (.int b1), .val (.int k2), .val (.int b2), .val (.int k3), .val (.int b3), .val (.ref o), .val (.int s1), .val (.int s2), .val (.int sm), .val (.long w1), .second, .val (.long w2), .second, .val (.long e0), .second, .unset, .unset, .unset, .unset] []) := by
    intro kj
    refine r_iload X4 cx L_163 rfl ?_
    refine r_iconst (1) X4 cx L_165 rfl ?_
    refine r_icmpne X4 cx L_166 (fun c166 => ?_) (fun c166 => ?_)
    · refine r_lconst (0) X4 cx L_174 rfl ?_
      exact kj _ (if_neg (fun q => c166 (jb1o.mpr q))).symm
    · refine r_lload X4 cx L_169 rfl ?_
      refine r_goto X4 cx L_171 ?_
      exact kj _ (if_pos (jb1o.mp c166)).symm
  refine kj175 (fun x3 p_x3 => ?_)
  have kj187 : (∀ v : Int64, (v = if nb2 = 1 then w2 else 0) → Run K (fun v _ => v = some (.int 1)) T4 (mkF K.m 187 #[.val (.int i0), .val (.int i1), .val (.int i2), .val (.int i3), .val (.int i4), .val (.int k1), .val (.int b1), .val (.int k2), .val (.int b2), .val (.int k3), .val (.int b3), .val (.ref o), .val (.int s1), .val (.int s2), .val (.int sm), .val (.long w1), .second, .val (.long w2), .second, .val (.long e0), .second, .unset, .unset, .unset, .unset] (.long v :: [(.long x3)]))) → Run K (fun v _ => v = some (.int 1)) T4 (mkF K.m 175 #[.val (.int i0), .val (.int i1), .val (.int i2), .val (.int i3), .val (.int i4), .val (.int k1), .val (.int b1), .val (.int k2), .val (.int b2), .val (.int k3), .val (.int b3), .val (.ref o), .val (.int s1), .val (.int s2), .val (.int sm), .val (.long w1), .second, .val (.long w2), .second, .val (.long e0), .second, .unset, .unset, .unset, .unset] [(.long x3)]) := by
    intro kj
    refine r_iload X4 cx L_175 rfl ?_
    refine r_iconst (1) X4 cx L_177 rfl ?_
    refine r_icmpne X4 cx L_178 (fun c178 => ?_) (fun c178 => ?_)
    · refine r_lconst (0) X4 cx L_186 rfl ?_
      exact kj _ (if_neg (fun q => c178 (jb2o.mpr q))).symm
    · refine r_lload X4 cx L_181 rfl ?_
      refine r_goto X4 cx L_183 ?_
      exact kj _ (if_pos (jb2o.mp c178)).symm
  refine kj187 (fun x4 p_x4 => ?_)
  refine r_lor X4 cx L_187 ?_
  refine r_lstore (fun zz => #[.val (.int i0), .val (.int i1), .val (.int i2), .val (.int i3), .val (.int i4), .val (.int k1), .val (.int b1), .val (.int k2), .val (.int b2), .val (.int k3), .val (.int b3), .val (.ref o), .val (.int s1), .val (.int s2), .val (.int sm), .val (.long w1), .second, .val (.long w2), .second, .val (.long e0), .second, .val (.long zz), .second, .unset, .unset]) X4 cx L_188 (fun _ => rfl) (fun e1 e_e1 => ?_)
  have kj235 : (∀ v : Int32, (v = if nb3 = nb2 ∧ nk3 = nk2 then s2 else if nb3 = nb1 ∧ nk3 = nk1 then s1 else 0) → Run K (fun v _ => v = some (.int 1)) T4 (mkF K.m 235 #[.val (.int i0), .val (.int i1), .val (.int i2), .val (.int i3), .val (.int i4), .val (.int k1), .val (.int b1), .val (.int k2), .val (.int b2), .val (.int k3), .val (.int b3), .val (.ref o), .val (.int s1), .val (.int s2), .val (.int sm), .val (.long w1), .second, .val (.long w2), .second, .val (.long e0), .second, .val (.long e1), .second, .val (.int v), .unset] [])) → Run K (fun v _ => v = some (.int 1)) T4 (mkF K.m 190 #[.val (.int i0), .val (.int i1), .val (.int i2), .val (.int i3), .val (.int i4), .val (.int k1), .val (.int b1), .val (.int k2), .val (.int b2), .val (.int k3), .val (.int b3), .val (.ref o), .val (.int s1), .val (.int s2), .val (.int sm), .val (.long w1), .second, .val (.long w2), .second, .val (.long e0), .second, .val (.long e1), .second, .unset, .unset] []) := by
    intro kj
    refine r_iload X4 cx L_190 rfl ?_
    refine r_iload X4 cx L_192 rfl ?_
    refine r_icmpne X4 cx L_194 (fun c194 => ?_) (fun c194 => ?_)
    · refine r_iload X4 cx L_211 rfl ?_
      refine r_iload X4 cx L_213 rfl ?_
      refine r_icmpne X4 cx L_215 (fun c215 => ?_) (fun c215 => ?_)
      · refine r_iconst (0) X4 cx L_232 rfl ?_
        refine r_istore (fun zz => #[.val (.int i0), .val (.int i1), .val (.int i2), .val (.int i3), .val (.int i4), .val (.int k1), .val (.int b1), .val (.int k2), .val (.int b2), .val (.int k3), .val (.int b3), .val (.ref o), .val (.int s1), .val (.int s2), .val (.int sm), .val (.long w1), .second, .val (.long w2), .second, .val (.long e0), .second, .val (.long e1), .second, .val (.int zz), .unset]) X4 cx L_233 (fun _ => rfl) (fun i355 e_i355 => ?_)
        subst e_i355
        exact kj _ (by rw [if_neg (fun q => c194 (jb32.mpr q.1)), if_neg (fun q => c215 (jb31.mpr q.1))])
      · refine r_iload X4 cx L_218 rfl ?_
        refine r_iload X4 cx L_220 rfl ?_
        refine r_icmpne X4 cx L_222 (fun c222 => ?_) (fun c222 => ?_)
        · refine r_iconst (0) X4 cx L_232 rfl ?_
          refine r_istore (fun zz => #[.val (.int i0), .val (.int i1), .val (.int i2), .val (.int i3), .val (.int i4), .val (.int k1), .val (.int b1), .val (.int k2), .val (.int b2), .val (.int k3), .val (.int b3), .val (.ref o), .val (.int s1), .val (.int s2), .val (.int sm), .val (.long w1), .second, .val (.long w2), .second, .val (.long e0), .second, .val (.long e1), .second, .val (.int zz), .unset]) X4 cx L_233 (fun _ => rfl) (fun i355 e_i355 => ?_)
          subst e_i355
          exact kj _ (by rw [if_neg (fun q => c194 (jb32.mpr q.1)), if_neg (fun q => c222 (jk31.mpr q.2))])
        · refine r_iload X4 cx L_225 rfl ?_
          refine r_istore (fun zz => #[.val (.int i0), .val (.int i1), .val (.int i2), .val (.int i3), .val (.int i4), .val (.int k1), .val (.int b1), .val (.int k2), .val (.int b2), .val (.int k3), .val (.int b3), .val (.ref o), .val (.int s1), .val (.int s2), .val (.int sm), .val (.long w1), .second, .val (.long w2), .second, .val (.long e0), .second, .val (.long e1), .second, .val (.int zz), .unset]) X4 cx L_227 (fun _ => rfl) (fun i355 e_i355 => ?_)
          replace e_i355 := e_i355.symm
          subst e_i355
          refine r_goto X4 cx L_229 ?_
          exact kj _ (by rw [if_neg (fun q => c194 (jb32.mpr q.1)), if_pos ⟨jb31.mp c215, jk31.mp c222⟩])
    · refine r_iload X4 cx L_197 rfl ?_
      refine r_iload X4 cx L_199 rfl ?_
      refine r_icmpne X4 cx L_201 (fun c201 => ?_) (fun c201 => ?_)
      · refine r_iload X4 cx L_211 rfl ?_
        refine r_iload X4 cx L_213 rfl ?_
        refine r_icmpne X4 cx L_215 (fun c215 => ?_) (fun c215 => ?_)
        · refine r_iconst (0) X4 cx L_232 rfl ?_
          refine r_istore (fun zz => #[.val (.int i0), .val (.int i1), .val (.int i2), .val (.int i3), .val (.int i4), .val (.int k1), .val (.int b1), .val (.int k2), .val (.int b2), .val (.int k3), .val (.int b3), .val (.ref o), .val (.int s1), .val (.int s2), .val (.int sm), .val (.long w1), .second, .val (.long w2), .second, .val (.long e0), .second, .val (.long e1), .second, .val (.int zz), .unset]) X4 cx L_233 (fun _ => rfl) (fun i355 e_i355 => ?_)
          subst e_i355
          exact kj _ (by rw [if_neg (fun q => c201 (jk32.mpr q.2)), if_neg (fun q => c215 (jb31.mpr q.1))])
        · refine r_iload X4 cx L_218 rfl ?_
          refine r_iload X4 cx L_220 rfl ?_
          refine r_icmpne X4 cx L_222 (fun c222 => ?_) (fun c222 => ?_)
          · refine r_iconst (0) X4 cx L_232 rfl ?_
            refine r_istore (fun zz => #[.val (.int i0), .val (.int i1), .val (.int i2), .val (.int i3), .val (.int i4), .val (.int k1), .val (.int b1), .val (.int k2), .val (.int b2), .val (.int k3), .val (.int b3), .val (.ref o), .val (.int s1), .val (.int s2), .val (.int sm), .val (.long w1), .second, .val (.long w2), .second, .val (.long e0), .second, .val (.long e1), .second, .val (.int zz), .unset]) X4 cx L_233 (fun _ => rfl) (fun i355 e_i355 => ?_)
            subst e_i355
            exact kj _ (by rw [if_neg (fun q => c201 (jk32.mpr q.2)), if_neg (fun q => c222 (jk31.mpr q.2))])
          · refine r_iload X4 cx L_225 rfl ?_
            refine r_istore (fun zz => #[.val (.int i0), .val (.int i1), .val (.int i2), .val (.int i3), .val (.int i4), .val (.int k1), .val (.int b1), .val (.int k2), .val (.int b2), .val (.int k3), .val (.int b3), .val (.ref o), .val (.int s1), .val (.int s2), .val (.int sm), .val (.long w1), .second, .val (.long w2), .second, .val (.long e0), .second, .val (.long e1), .second, .val (.int zz), .unset]) X4 cx L_227 (fun _ => rfl) (fun i355 e_i355 => ?_)
            replace e_i355 := e_i355.symm
            subst e_i355
            refine r_goto X4 cx L_229 ?_
            exact kj _ (by rw [if_neg (fun q => c201 (jk32.mpr q.2)), if_pos ⟨jb31.mp c215, jk31.mp c222⟩])
      · refine r_iload X4 cx L_204 rfl ?_
        refine r_istore (fun zz => #[.val (.int i0), .val (.int i1), .val (.int i2), .val (.int i3), .val (.int i4), .val (.int k1), .val (.int b1), .val (.int k2), .val (.int b2), .val (.int k3), .val (.int b3), .val (.ref o), .val (.int s1), .val (.int s2), .val (.int sm), .val (.long w1), .second, .val (.long w2), .second, .val (.long e0), .second, .val (.long e1), .second, .val (.int zz), .unset]) X4 cx L_206 (fun _ => rfl) (fun i355 e_i355 => ?_)
        replace e_i355 := e_i355.symm
        subst e_i355
        refine r_goto X4 cx L_208 ?_
        exact kj _ (if_pos ⟨jb32.mp c194, jk32.mp c201⟩).symm
  refine kj235 (fun ap p_ap => ?_)
  have kj247 : (∀ v : Int32, (v = if nb1 = nb2 ∧ nk1 = nk2 then s2 else s1) → Run K (fun v _ => v = some (.int 1)) T4 (mkF K.m 247 #[.val (.int i0), .val (.int i1), .val (.int i2), .val (.int i3), .val (.int i4), .val (.int k1), .val (.int b1), .val (.int k2), .val (.int b2), .val (.int k3), .val (.int b3), .val (.ref o), .val (.int s1), .val (.int s2), .val (.int sm), .val (.long w1), .second, .val (.long w2), .second, .val (.long e0), .second, .val (.long e1), .second, .val (.int ap), .unset] (.int v :: []))) → Run K (fun v _ => v = some (.int 1)) T4 (mkF K.m 235 #[.val (.int i0), .val (.int i1), .val (.int i2), .val (.int i3), .val (.int i4), .val (.int k1), .val (.int b1), .val (.int k2), .val (.int b2), .val (.int k3), .val (.int b3), .val (.ref o), .val (.int s1), .val (.int s2), .val (.int sm), .val (.long w1), .second, .val (.long w2), .second, .val (.long e0), .second, .val (.long e1), .second, .val (.int ap), .unset] []) := by
    intro kj
    refine r_iload X4 cx L_235 rfl ?_
    refine r_ifeq X4 cx L_237 (fun c237 => ?_) (fun c237 => ?_)
    · refine r_iload X4 cx L_245 rfl ?_
      exact kj _ (by
        rcases p_sm with ⟨h0, _⟩ | ⟨_, h1⟩
        · exact absurd (h0.symm.trans c237) (by decide)
        · rw [if_neg h1])
    · refine r_iload X4 cx L_240 rfl ?_
      refine r_goto X4 cx L_242 ?_
      exact kj _ (by
        rcases p_sm with ⟨_, h1⟩ | ⟨h0, _⟩
        · rw [if_pos h1]
        · exact absurd h0 c237)
  refine kj247 (fun at1 p_at1 => ?_)
  refine r_istore (fun zz => #[.val (.int i0), .val (.int i1), .val (.int i2), .val (.int i3), .val (.int i4), .val (.int k1), .val (.int b1), .val (.int k2), .val (.int b2), .val (.int k3), .val (.int b3), .val (.ref o), .val (.int s1), .val (.int s2), .val (.int sm), .val (.long w1), .second, .val (.long w2), .second, .val (.long e0), .second, .val (.long e1), .second, .val (.int ap), .val (.int zz)]) X4 cx L_247 (fun _ => rfl) (fun at1 e_at1 => ?_)
  replace e_at1 := e_at1.symm
  subst e_at1
  have hl0 := own_law0 s1 s2 hb1 hb2 hk1 hk2 p_w1 p_w2
  rw [← e_s1, ← e_s2] at A_ac A_an
  refine r_aload X4 cx L_249 rfl ?_
  refine r_getfield X4 cx L_251 (hw.get 20 rfl) F_nz (fun T455 X455 => ?_)
  refine r_alenJ X455 cx L_254 A_an (2) (by simp [own_nz2, own_nz1]) ?_
  refine r_iconst (2) X455 cx L_255 rfl ?_
  refine r_icmpne X455 cx L_256 (fun c => absurd c (by decide)) (fun _ => ?_)
  refine r_aload X455 cx L_259 rfl ?_
  refine r_getfield X455 cx L_261 (hw.get 21 rfl) F_co (fun T456 X456 => ?_)
  refine r_alen X456 cx L_264 A_ac (128) (by simp [own_cs2]) ?_
  refine r_sipush (128) X456 cx L_265 rfl ?_
  refine r_icmpne X456 cx L_268 (fun c => absurd c (by decide)) (fun _ => ?_)
  refine r_aload X456 cx L_271 rfl ?_
  refine r_getfield X456 cx L_273 (hw.get 20 rfl) F_nz (fun T457 X457 => ?_)
  refine r_iconst (0) X457 cx L_276 rfl ?_
  refine r_laload X457 cx L_277 A_an (0) rfl (v := ((own_nz2 nb1 nk1 nb2 nk2 s1 s2)[0]?.getD 0)) (own_gdL (by simp [own_nz2, own_nz1])) ?_
  refine r_lload X457 cx L_278 rfl ?_
  refine r_lcmp X457 cx L_280 ?_
  refine r_lcmpne X457 cx L_281 (fun c281 => ?_) (fun c281 => ?_)
  · exact absurd (hl0.1.trans (by rw [e_e0, p_x1, p_x2])) c281
  · refine r_aload X457 cx L_284 rfl ?_
    refine r_getfield X457 cx L_286 (hw.get 20 rfl) F_nz (fun T458 X458 => ?_)
    refine r_iconst (1) X458 cx L_289 rfl ?_
    refine r_laload X458 cx L_290 A_an (1) rfl (v := ((own_nz2 nb1 nk1 nb2 nk2 s1 s2)[1]?.getD 0)) (own_gdL (by simp [own_nz2, own_nz1])) ?_
    refine r_lload X458 cx L_291 rfl ?_
    refine r_lcmp X458 cx L_293 ?_
    refine r_lcmpne X458 cx L_294 (fun c294 => ?_) (fun c294 => ?_)
    · exact absurd (hl0.2.trans (by rw [e_e1, p_x3, p_x4])) c294
    · refine r_aload X458 cx L_297 rfl ?_
      refine r_getfield X458 cx L_299 (hw.get 21 rfl) F_co (fun T459 X459 => ?_)
      refine r_bipush (64) X459 cx L_302 rfl ?_
      refine r_iload X459 cx L_304 rfl ?_
      refine r_imul X459 cx L_306 ?_
      refine r_iload X459 cx L_307 rfl ?_
      refine r_iadd X459 cx L_309 ?_
      refine r_saload X459 cx L_310 A_ac (64 * nb1 + nk1) (by rw [eb1, ek1]; exact own_ix _ _) (v := ((own_cs2 (64 * nb1 + nk1) (64 * nb2 + nk2) s1 s2)[64 * nb1 + nk1]?.getD 0)) (own_gd (by simp [own_cs2]; omega)) ?_
      refine r_iload X459 cx L_311 rfl ?_
      refine r_icmpne X459 cx L_313 (fun c313 => ?_) (fun c313 => ?_)
      · exfalso
        apply c313
        rw [own_at _ _ _ _ _ (by omega) (by omega) (by omega), p_at1]
        by_cases q : nb1 = nb2 ∧ nk1 = nk2
        · rw [if_pos q, if_pos (by omega)]
        · rw [if_neg q, if_neg (by omega), if_pos rfl]
      · refine r_aload X459 cx L_316 rfl ?_
        refine r_getfield X459 cx L_318 (hw.get 21 rfl) F_co (fun T460 X460 => ?_)
        refine r_bipush (64) X460 cx L_321 rfl ?_
        refine r_iload X460 cx L_323 rfl ?_
        refine r_imul X460 cx L_325 ?_
        refine r_iload X460 cx L_326 rfl ?_
        refine r_iadd X460 cx L_328 ?_
        refine r_saload X460 cx L_329 A_ac (64 * nb2 + nk2) (by rw [eb2, ek2]; exact own_ix _ _) (v := ((own_cs2 (64 * nb1 + nk1) (64 * nb2 + nk2) s1 s2)[64 * nb2 + nk2]?.getD 0)) (own_gd (by simp [own_cs2]; omega)) ?_
        refine r_iload X460 cx L_330 rfl ?_
        refine r_icmpne X460 cx L_332 (fun c332 => ?_) (fun c332 => ?_)
        · exfalso
          apply c332
          rw [own_at _ _ _ _ _ (by omega) (by omega) (by omega)]
          rw [if_pos rfl]
        · refine r_aload X460 cx L_335 rfl ?_
          refine r_getfield X460 cx L_337 (hw.get 21 rfl) F_co (fun T461 X461 => ?_)
          refine r_bipush (64) X461 cx L_340 rfl ?_
          refine r_iload X461 cx L_342 rfl ?_
          refine r_imul X461 cx L_344 ?_
          refine r_iload X461 cx L_345 rfl ?_
          refine r_iadd X461 cx L_347 ?_
          refine r_saload X461 cx L_348 A_ac (64 * nb3 + nk3) (by rw [eb3, ek3]; exact own_ix _ _) (v := ((own_cs2 (64 * nb1 + nk1) (64 * nb2 + nk2) s1 s2)[64 * nb3 + nk3]?.getD 0)) (own_gd (by simp [own_cs2]; omega)) ?_
          refine r_iload X461 cx L_349 rfl ?_
          refine r_icmpne X461 cx L_351 (fun c351 => ?_) (fun c351 => ?_)
          · exfalso
            apply c351
            rw [own_at _ _ _ _ _ (by omega) (by omega) (by omega), p_ap]
            by_cases q : nb3 = nb2 ∧ nk3 = nk2
            · rw [if_pos q, if_pos (by omega)]
            · rw [if_neg q, if_neg (by omega)]
              by_cases q2 : nb3 = nb1 ∧ nk3 = nk1
              · rw [if_pos q2, if_pos (by omega)]
              · rw [if_neg q2, if_neg (by omega)]
          · refine r_iconst (1) X461 cx L_354 rfl ?_
            refine r_goto X461 cx L_355 ?_
            refine r_zreturn X461 cx L_359 (by decide) (by decide) ?_
            rfl
set_option maxRecDepth 65536 in
set_option maxHeartbeats 40000000 in
theorem comes_1 {Post : Tables → Env → Array Value → State → Outcome → State → Prop} (hpost : ∀ tb e args s v u, (limb_1_1.after args s (.returned v) u = true ∧ limb_1_2.after args s (.returned v) u = true ∧ True) → FrameEnd s (.returned v) u (Jvm.fieldLocs frame_1_writes args s ++ Jvm.arrayLocs frame_1_arrays args s ++ Jvm.staticLocs frame_1_statics s) 16 384 → Post tb e args s (.returned v) u) :
    ArmFor flags0 classFile x code maxLocals ret World_1 tables_1 room_1 Calls_1 rest_1 Pre_1 Post := by
  intro l hfl _ _ p e ha hc hk s m args below hf hA hF happ hP
  obtain ⟨hcalls, hrest, hpre⟩ := hP
  obtain ⟨-, -, -, hnamed, -, -, -, hat⟩ := (Spec.applies_iff hf).mp happ
  obtain ⟨hg, hn⟩ := and_e (Cond.before_iff.mp (show (Jvm.Cond.and given_1 narrow_1).before args s = true from hpre))
  obtain ⟨gc, r0⟩ := and_e hg
  obtain ⟨g0, r1⟩ := and_e r0
  obtain ⟨g1, r2⟩ := and_e r1
  obtain ⟨g2, r3⟩ := and_e r2
  obtain ⟨g3, r4⟩ := and_e r3
  obtain ⟨w0, w1, w2, w3, w4, rfl⟩ : ∃ w0 w1 w2 w3 w4 : Value, args = #[w0, w1, w2, w3, w4] := by
    have hs : args.size = 5 := by simpa [Cond.value, given_1] using gc
    obtain ⟨L⟩ := args
    match L, hs with
    | [w0, w1, w2, w3, w4], _ => exact ⟨w0, w1, w2, w3, w4, rfl⟩
  have hw : Tb tables_1 #[w0, w1, w2, w3, w4] s := fun d (hd : d ∈ tables_1) => atoms_spec (ws := Jvm.Cond.code x code maxLocals ret :: tables_1) hat d (List.mem_cons_of_mem _ hd)
  obtain ⟨i0, ei0⟩ := is_v g0
  obtain rfl : w0 = (.int i0) := Option.some.inj ei0
  obtain ⟨i1, ei1⟩ := is_v g1
  obtain rfl : w1 = (.int i1) := Option.some.inj ei1
  obtain ⟨i2, ei2⟩ := is_v g2
  obtain rfl : w2 = (.int i2) := Option.some.inj ei2
  obtain ⟨i3, ei3⟩ := is_v g3
  obtain rfl : w3 = (.int i3) := Option.some.inj ei3
  obtain ⟨i4, ei4⟩ := is_v r4
  obtain rfl : w4 = (.int i4) := Option.some.inj ei4
  obtain ⟨n, o, h1, h2, h3, _, L, rfl, ⟨rfl, N⟩, hq⟩ := con_L l s _ hw i0 i1 i2 i3 i4 s.heap s.heap.size (Nat.le_refl _) tables_1 p e ha hc hk s m _ below hf ((Spec.applies_iff_loose hf).mp happ).1 ⟨rfl, State.Warmed39.refl s, rfl⟩ trivial
  refine ⟨n, _, h1, h2, h3, hpost _ _ _ _ _ _ ⟨Cond.after_iff.mpr rfl, Cond.after_iff.mpr (eq_i res_at (Term.int_eval (1)) rfl), trivial⟩ ⟨hq.1, hq.2.1, (hq.2.2.sift fun y hy => Or.inr (N y hy)).mono (by decide) (by decide)⟩⟩
theorem main_1_1 : Claimed_1_1 := comes_1 fun _ _ _ _ _ _ h hF => ⟨h.1, hF⟩
theorem main_1_2 : Claimed_1_2 := comes_1 fun _ _ _ _ _ _ h hF => ⟨h.2.1, hF⟩
end Jvm.Pilot.@@N@@
namespace Jvm.Pilot.@@N@@
open Jvm Jvm.ClassFile Sem Op Lib Jvm.Free Jvm.Stand Jvm.Pilot.@@N@@.Jvm.D
/-! MADE BY PROGRAM (witnessworld.py) out of the Statement's table words and the real class files: 13 classes; the members and pool entries that the words name. The judged class is class 1, her method 1. -/
namespace start1
open Jvm.ClassFile
def u (s : String) : CpInfo := .utf8 (stringToUtf16 s)
/-- a pool by its gaps: so many unusable entries, then the entry; so many at the end -/
def gap : Nat → List CpInfo → List CpInfo
  | 0, r => r
  | n + 1, r => .unusable :: gap n r
def poolList (es : List (Nat × CpInfo)) (last : Nat) : List CpInfo := es.foldr (fun e r => gap e.1 (e.2 :: r)) (gap last [])
def pool (es : List (Nat × CpInfo)) (last : Nat) : Array CpInfo := ⟨poolList es last⟩
def fileOf (pool : Array CpInfo) (this : Nat) (attrs : Array Attribute := #[]) (ms : Array MethodInfo := #[]) (fl : Nat := 33) (sup : Nat := 0) (ifs : Array Nat := #[]) (fds : Array FieldInfo := #[]) : ClassFile where
  minorVersion := 0
  majorVersion := 65
  constantPool := pool
  accessFlags := fl
  thisClass := this
  superClass := sup
  interfaces := ifs
  fields := fds
  methods := ms
  attributes := attrs
def plain (name : String) (sup : Option ClassId) : Class where
  name := name
  kind := .ordinary
  loader := none
  accessFlags := 33
  super := sup
  interfaces := #[]
  cf := none
  fields := #[]
  methods := #[]
  instanceTypes := #[]
  staticTypes := #[]
  resolved := #[]
  callSites := []
  init := .initialized
  statics := none
  mirror := none

def pool0 : Array CpInfo := pool [(5, u "<init>"), (0, u "()V"), (1, .class_ 10), (1, u "java/lang/Object")] 113

def k0c0 : Code := { maxStack := 0, maxLocals := 1, code := object_method_1_code, exceptionTable := #[], attributes := #[] }
def k0m0 : Method := { name := "<init>", desc := "()V", sig := { parameters := [], returnType := none }, accessFlags := 1, code := some k0c0 }
/-- java/lang/Object -/
def k0 : Class := { plain "java/lang/Object" none with
  accessFlags := 33
  interfaces := #[]
  cf := some (fileOf pool0 8 #[] #[{ accessFlags := 1, nameIndex := 5, descriptorIndex := 6, attributes := #[] }] 33 0 #[] #[])
  fields := #[]
  methods := #[k0m0]
  instanceTypes := #[]
  staticTypes := #[]
  resolved := Array.replicate 124 none
  statics := none }

def pool1 : Array CpInfo := pool [(2, .class_ 4), (1, u "java/lang/Object"), (0, u "<init>"), (0, u "()V"), (0, .class_ 8), (0, u (site_49.cls)), (0, .methodref 7 10), (0, .nameAndType 5 11), (0, u "(I)V"), (0, .methodref 7 13), (0, .nameAndType 14 15), (0, u "set"), (0, u "(III)V"), (0, .fieldref 7 17), (0, .nameAndType 18 19), (0, u "nonzero"), (0, u "[J"), (0, .fieldref 7 21), (0, .nameAndType 22 23), (0, u "coefficients"), (0, u "[S"), (0, .class_ 25), (0, u (x.cls)), (2, u "law"), (0, u "(IIIII)Z")] 3

def k1m0 : Method := { name := "<init>", desc := "()V", sig := { parameters := [], returnType := none }, accessFlags := 1, code := none }
def k1c1 : Code := { maxStack := 4, maxLocals := 25, code := code, exceptionTable := #[], attributes := #[] }
def k1m1 : Method := { name := "law", desc := "(IIIII)Z", sig := { parameters := [.int, .int, .int, .int, .int], returnType := some .boolean }, accessFlags := 9, code := some k1c1 }
def k1 : Class := { plain (x.cls) (some 0) with
  accessFlags := 49
  interfaces := #[]
  cf := some (fileOf pool1 24 #[] #[{ accessFlags := 1, nameIndex := 5, descriptorIndex := 6, attributes := #[] }, { accessFlags := 9, nameIndex := 28, descriptorIndex := 29, attributes := #[] }] 49 2 #[] #[])
  fields := #[]
  methods := #[k1m0, k1m1]
  instanceTypes := #[]
  staticTypes := #[]
  resolved := Array.replicate 33 none
  statics := none }

def pool2 : Array CpInfo := pool [(1, .methodref 2 3), (0, .class_ 4), (0, .nameAndType 5 6), (0, u "java/lang/Object"), (0, u "<init>"), (0, u "()V"), (0, .fieldref 8 9), (0, .class_ 10), (0, .nameAndType 11 12), (0, u (site_49.cls)), (0, u "coefficients"), (0, u "[S"), (0, .fieldref 8 14), (0, .nameAndType 15 16), (0, u "nonzero"), (0, u "[J"), (0, .long 18446744073709551615), (7, u "PLACES"), (0, u "[B"), (13, u "DE_BRUIJN"), (0, u "J"), (1, u "(I)V"), (2, u "set"), (0, u "(III)V")] 6

def k2c0 : Code := { maxStack := 3, maxLocals := 2, code := prog_32_method_1_code, exceptionTable := #[], attributes := #[] }
def k2m0 : Method := { name := "<init>", desc := "(I)V", sig := { parameters := [.int], returnType := none }, accessFlags := 0, code := some k2c0 }
def k2c1 : Code := { maxStack := 8, maxLocals := 5, code := prog_32_method_2_code, exceptionTable := #[], attributes := #[] }
def k2m1 : Method := { name := "set", desc := "(III)V", sig := { parameters := [.int, .int, .int], returnType := none }, accessFlags := 0, code := some k2c1 }
def k2 : Class := { plain (site_49.cls) (some 0) with
  accessFlags := 48
  interfaces := #[]
  cf := some (fileOf pool2 8 #[] #[{ accessFlags := 0, nameIndex := 5, descriptorIndex := 43, attributes := #[] }, { accessFlags := 0, nameIndex := 46, descriptorIndex := 47, attributes := #[] }] 48 2 #[] #[{ accessFlags := 26, nameIndex := 40, descriptorIndex := 41, attributes := #[] }, { accessFlags := 26, nameIndex := 25, descriptorIndex := 26, attributes := #[] }, { accessFlags := 16, nameIndex := 11, descriptorIndex := 12, attributes := #[] }, { accessFlags := 16, nameIndex := 15, descriptorIndex := 16, attributes := #[] }])
  fields := #[{ name := "DE_BRUIJN", type := .long, accessFlags := 26, slot := 0, constantValue := 0 }, { name := "PLACES", type := (.array .byte), accessFlags := 26, slot := 1, constantValue := 0 }, { name := "coefficients", type := (.array .short), accessFlags := 16, slot := 0, constantValue := 0 }, { name := "nonzero", type := (.array .long), accessFlags := 16, slot := 1, constantValue := 0 }]
  methods := #[k2m0, k2m1]
  instanceTypes := #[(.array .short), (.array .long)]
  staticTypes := #[.long, (.array .byte)]
  resolved := Array.replicate 54 none
  statics := none }

def pool3 : Array CpInfo := pool [(1, u "java/lang/Cloneable"), (0, .class_ 1), (0, u "java/lang/Object"), (0, .class_ 3)] 3

/-- java/lang/Cloneable -/
def k3 : Class := { plain "java/lang/Cloneable" (some 0) with
  accessFlags := 1537
  interfaces := #[]
  cf := some (fileOf pool3 2 #[] #[] 1537 4 #[] #[])
  fields := #[]
  methods := #[]
  instanceTypes := #[]
  staticTypes := #[]
  resolved := Array.replicate 8 none
  statics := none }

def pool4 : Array CpInfo := pool [(1, u "java/io/Serializable"), (0, .class_ 1), (0, u "java/lang/Object"), (0, .class_ 3)] 3

/-- java/io/Serializable -/
def k4 : Class := { plain "java/io/Serializable" (some 0) with
  accessFlags := 1537
  interfaces := #[]
  cf := some (fileOf pool4 2 #[] #[] 1537 4 #[] #[])
  fields := #[]
  methods := #[]
  instanceTypes := #[]
  staticTypes := #[]
  resolved := Array.replicate 8 none
  statics := none }

/-- the primitive byte -/
def k5 : Class := { plain "byte" none with kind := .primitive 'B', accessFlags := 0x411 }
/-- [B -/
def k6 : Class := { plain "[B" (some 0) with kind := .array 5 .byte, interfaces := #[3, 4], accessFlags := 1041 }

/-- the primitive int -/
def k7 : Class := { plain "int" none with kind := .primitive 'I', accessFlags := 0x411 }
/-- [I -/
def k8 : Class := { plain "[I" (some 0) with kind := .array 7 .int, interfaces := #[3, 4], accessFlags := 1041 }

/-- the primitive long -/
def k9 : Class := { plain "long" none with kind := .primitive 'J', accessFlags := 0x411 }
/-- [J -/
def k10 : Class := { plain "[J" (some 0) with kind := .array 9 .long, interfaces := #[3, 4], accessFlags := 1041 }

/-- the primitive short -/
def k11 : Class := { plain "short" none with kind := .primitive 'S', accessFlags := 0x411 }
/-- [S -/
def k12 : Class := { plain "[S" (some 0) with kind := .array 11 .short, interfaces := #[3, 4], accessFlags := 1041 }

def heap : Heap := #[]
def classes : Array Class := #[k0, k1, k2, k3, k4, k5, k6, k7, k8, k9, k10, k11, k12]
def interned : List (Array UInt16 × Addr) := []
def slotsUsed : Nat := 0
def theMethod : MethodId := ⟨1, 1⟩
def args0 : Array Value := #[.int 5, .int 6, .int 7, .int 8, .int 9]
def aboutOver (below : List Frame) : State where
  vm := { classes := classes, interned := interned.toArray }
  heap := heap
  slotsUsed := slotsUsed
  threads := #[{ frames := .invoking theMethod args0 :: below }]
def below0 : List Frame := [.native { method := ⟨0, 0⟩, args := #[] }]
def about1 : State := aboutOver below0
def p0 : Program := .bare "" "" ""
def e0 : Env := launch0.env 0 0 0
theorem w_frames : about1.frames = Frame.invoking theMethod args0 :: below0 := rfl
set_option maxRecDepth 65536 in
theorem w_args : argsFit about1.vm theMethod args0 = true := by decide +kernel
set_option maxRecDepth 65536 in
theorem w_heap : heapFits about1 = true := by decide +kernel
set_option maxRecDepth 65536 in
theorem w_runnable : about1.curStatus? = some .runnable := by decide +kernel
set_option maxRecDepth 65536 in
theorem w_alone : about1.alone = true := by decide +kernel
set_option maxRecDepth 65536 in
theorem w_named : about1.methodNamed? x = some theMethod := by decide +kernel
set_option maxRecDepth 65536 in
theorem w_hears : about1.hears theMethod below0 = true := by decide +kernel
set_option maxRecDepth 65536 in
theorem w_ripe : about1.ripe theMethod args0 below0 = true := by decide +kernel
theorem w_running : about1.status = .running := rfl
set_option maxRecDepth 65536 in
theorem w_room : about1.hasRoom e0.platform room_1 = true :=
  launch0.hasRoom_least _ room_1 (by decide +kernel) (by decide +kernel) (by decide +kernel) (by decide +kernel) (by decide +kernel) (by decide +kernel)
theorem allAtoms_all (ts : List Jvm.Cond) (a : Array Jvm.Value) (st : Jvm.State) : (allAtoms ts).before a st = ts.all (fun c => c.before a st) := by
  induction ts with
  | nil => rfl
  | cons c t ih =>
    show (Jvm.Cond.and c (allAtoms t)).before a st = _
    rw [Jvm.Cond.before_and, ih, List.all_cons]
def words1 : List Jvm.Cond := Jvm.Cond.code x code maxLocals ret :: tables_1
/-- a 'code' word, met by the world's own term for the bytes: nothing is compared byte by byte -/
theorem code_word {y : MethodName} {bytes : ByteArray} {mx : Nat} {rt : Option FieldType} {a : Array Value} {s : State} {m : MethodId} {meth : Method} {c : Code} (h1 : s.methodNamed? y = some m) (h2 : s.vm.method? m = some meth) (h3 : meth.code = some c) (h4 : c.code = bytes)
    (h5 : (c.maxLocals == mx && c.exceptionTable.isEmpty && decide (c.maxStack ≤ mostOperands) && decide (meth.sig.returnType = rt) && !meth.locks && decide (parseMethodDescriptor y.desc = some meth.sig)) = true) : (Jvm.Cond.code y bytes mx rt).before a s = true := by
  simp only [Bool.and_eq_true, beq_iff_eq, Bool.not_eq_true', decide_eq_true_eq] at h5
  obtain ⟨⟨⟨⟨⟨g1, g2⟩, g3⟩, g4⟩, g5⟩, g6⟩ := h5
  simp [Cond.before, Cond.holds, Cond.value, h1, h2, h3, h4, g1, g2, g3, g4, g5, g6]
def isCode : Jvm.Cond → Bool
  | .code _ _ _ _ => true
  | _ => false
theorem all_split {L : List Jvm.Cond} {P : Jvm.Cond → Bool} (h1 : L.all (fun c => isCode c || P c) = true) (h2 : ∀ c ∈ L.filter isCode, P c = true) : L.all P = true := by
  refine List.all_eq_true.mpr fun c hc => ?_
  have h := List.all_eq_true.mp h1 c hc
  rcases Bool.eq_false_or_eq_true (isCode c) with hi | hi
  · exact h2 c (List.mem_filter.mpr ⟨hc, hi⟩)
  · simpa [hi] using h
set_option maxRecDepth 65536 in
theorem w_c0 : (Jvm.Cond.code x code maxLocals ret).before args0 about1 = true := code_word (m := ⟨1, 1⟩) (meth := k1m1) (c := k1c1) (by decide +kernel) rfl rfl rfl (by decide +kernel)
set_option maxRecDepth 65536 in
theorem w_c1 : (Jvm.Cond.code site_49 prog_32_method_1_code (2 : Nat) (Option.none : Option Jvm.ClassFile.FieldType)).before args0 about1 = true := code_word (m := ⟨2, 0⟩) (meth := k2m0) (c := k2c0) (by decide +kernel) rfl rfl rfl (by decide +kernel)
set_option maxRecDepth 65536 in
theorem w_c2 : (Jvm.Cond.code ({ cls := "java/lang/Object", name := "<init>", desc := "()V" } : Jvm.MethodName) object_method_1_code (1 : Nat) (Option.none : Option Jvm.ClassFile.FieldType)).before args0 about1 = true := code_word (m := ⟨0, 0⟩) (meth := k0m0) (c := k0c0) (by decide +kernel) rfl rfl rfl (by decide +kernel)
set_option maxRecDepth 65536 in
theorem w_c3 : (Jvm.Cond.code site_61 prog_32_method_2_code (5 : Nat) (Option.none : Option Jvm.ClassFile.FieldType)).before args0 about1 = true := code_word (m := ⟨2, 1⟩) (meth := k2m1) (c := k2c1) (by decide +kernel) rfl rfl rfl (by decide +kernel)
def codes1 : List Jvm.Cond := [Jvm.Cond.code x code maxLocals ret, Jvm.Cond.code site_49 prog_32_method_1_code (2 : Nat) (Option.none : Option Jvm.ClassFile.FieldType), Jvm.Cond.code ({ cls := "java/lang/Object", name := "<init>", desc := "()V" } : Jvm.MethodName) object_method_1_code (1 : Nat) (Option.none : Option Jvm.ClassFile.FieldType), Jvm.Cond.code site_61 prog_32_method_2_code (5 : Nat) (Option.none : Option Jvm.ClassFile.FieldType)]
set_option maxRecDepth 65536 in
theorem codes_eq : words1.filter isCode = codes1 := rfl
theorem w_codes : ∀ c ∈ words1.filter isCode, c.before args0 about1 = true := by
  rw [codes_eq]
  intro c hc
  simp only [codes1, List.mem_cons, List.not_mem_nil, or_false] at hc
  rcases hc with rfl | rfl | rfl | rfl
  · exact w_c0
  · exact w_c1
  · exact w_c2
  · exact w_c3
set_option maxRecDepth 65536 in
theorem w_t1 : words1.all (fun c => isCode c || c.before args0 about1) = true := by decide +kernel
theorem w_tables : (allAtoms (Jvm.Cond.code x code maxLocals ret :: tables_1)).before args0 about1 = true := by
  rw [allAtoms_all]
  show words1.all (fun c => c.before args0 about1) = true
  refine all_split ?_ w_codes
  rw [w_t1]
set_option maxRecDepth 65536 in
theorem w_case : (Jvm.Cond.and given_1 narrow_1).before args0 about1 = true := by decide +kernel
theorem w_applies : (headSpec (Jvm.Cond.code x code maxLocals ret :: tables_1) room_1).applies x e0.platform about1 = true :=
  (Spec.applies_iff w_frames).mpr ⟨w_running, w_runnable, w_alone, w_named, w_hears, w_ripe, w_room, w_tables⟩
theorem atStart : AtStart classFile x code maxLocals ret World_1 tables_1 room_1 Calls_1 rest_1 Pre_1 launch0 p0 e0 about1 theMethod args0 below0 :=
  ⟨lists_1, trivial, launch0.admits_env _ _ _, launch0.least_env, fairChoices_fair.cas, fairChoices_fair.clock, w_frames, w_args, w_heap, w_applies, trivial, trivial, w_case⟩
end start1
theorem witness_1 : WitnessClaimed_1 := ⟨start1.p0, start1.e0, start1.about1, start1.theMethod, start1.args0, start1.below0, start1.atStart⟩
end Jvm.Pilot.@@N@@

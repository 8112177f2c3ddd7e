import JvmDerived
import JvmDerived.Pilot.@@N@@Statement
import JvmDerived.Pilot.@@N@@Code
set_option linter.unusedVariables false
set_option linter.unusedSimpArgs false
namespace Jvm.RoadKit
open Sem ClassFile Op Lib Jvm.Stand Jvm.Free Jvm.LawKit
section New
variable {p : Program} {l : Launch} {e : Env} {R : Room} {s : State} {m : MethodId} {args : Array Value} {below : List Frame} {meth : Method} {c : Code} {T : State} {locs : List Loc} {cells slots : Nat}
theorem retI (X : Stand p l e R s m args below meth c T locs cells slots) (hx : p.tables.exec = Jvm.exec) {pc : Nat} {Ls : Array Slot} {z : Int32} {rest : List Value} (hret : meth.sig.returnType = some .int) (hd : decode c.code pc = .ok (.ireturn, 1)) {fs : List Frame}
    (hl : ∀ (f : JFrame) (acts : List Action), f.method = m → f.locked = none → f.entered = [] → (doReturn e (T.setTop f) acts (some (.int z))).1 = T.setFrames fs) : Steps p.tables e below (T.setTop (mkF m pc Ls (.int z :: rest))) (T.setFrames fs) := by
  have hm' : T.vm.method? m = some meth := X.method'
  have hn : narrow .int (.int z) = .int z := rfl
  show Steps p.tables e below (T.setTop { method := m, pc := pc, locals := Ls, stack := _ :: rest, locked := none }) _
  jvm_step X.here [X.here.top, hx, hd, hm', hret, hn]
  first | (intro acts; rw [hl _ acts rfl rfl rfl]) | rw [hl _ _ rfl rfl rfl]
  exact Steps.refl _
end New
end Jvm.RoadKit
namespace Jvm.Own
open Sem ClassFile Op Lib Jvm.Stand Jvm.Free Jvm.LawKit Jvm.RoadKit
/-- the constants of one body's walk -/
abbrev KT := Program × Launch × Env × Room × State × MethodId × Array Value × List Frame × Method × Code × State × Nat
abbrev KT.p (K : KT) : Program := K.1
abbrev KT.l (K : KT) : Launch := K.2.1
abbrev KT.e (K : KT) : Env := K.2.2.1
abbrev KT.R (K : KT) : Room := K.2.2.2.1
abbrev KT.s (K : KT) : State := K.2.2.2.2.1
abbrev KT.m (K : KT) : MethodId := K.2.2.2.2.2.1
abbrev KT.args (K : KT) : Array Value := K.2.2.2.2.2.2.1
abbrev KT.below (K : KT) : List Frame := K.2.2.2.2.2.2.2.1
abbrev KT.meth (K : KT) : Method := K.2.2.2.2.2.2.2.2.1
abbrev KT.c (K : KT) : Code := K.2.2.2.2.2.2.2.2.2.1
abbrev KT.Z (K : KT) : State := K.2.2.2.2.2.2.2.2.2.2.1
abbrev KT.n0 (K : KT) : Nat := K.2.2.2.2.2.2.2.2.2.2.2
/-- what is known of the body -/
def Cx (K : KT) (y : MethodName) (bytes : ByteArray) (mx : Nat) (rt : Option FieldType) (R : Room) : Prop :=
  K.p.tables.exec = Jvm.exec ∧ K.Z.Warmed39 K.s.vm ∧ K.c.code = bytes ∧ K.c.maxLocals = mx ∧ K.s.vm.findClass y.cls = some K.m.cls ∧ K.meth.sig.returnType = rt ∧ K.meth.locks = false ∧ K.R = R ∧ K.meth.name = y.name
/-- where the walk stands: heap h, so many cells and slots made; nothing old written -/
def Sd (K : KT) (T : State) (h : Heap) (cl sl : Nat) : Prop := ∃ locs, Stand K.p K.l K.e K.R K.s K.m K.args K.below K.meth K.c T locs cl sl ∧ Fr K.n0 locs ∧ K.n0 ≤ h.size ∧ T.heap = h
/-- from here the body comes to its end, and Q holds of what it returns and of the heap then -/
def Run (K : KT) (Q : Option Value → Heap → Prop) (T : State) (g : JFrame) : Prop :=
  ∃ s₂ v L, Steps K.p.tables K.e K.below (T.setTop g) s₂ ∧ s₂.status = .running ∧ Ended s₂ K.below (.returned v) ∧ Q v s₂.heap ∧ Fr K.n0 L ∧ FrameEnd K.s (.returned v) s₂ L K.R.cells K.R.slots
theorem Run.st {K : KT} {Q : Option Value → Heap → Prop} {T T' : State} {g g' : JFrame} (st : ∀ t, Steps K.p.tables K.e K.below (T'.setTop g') t → Steps K.p.tables K.e K.below (T.setTop g) t) (k : Run K Q T' g') : Run K Q T g := by
  obtain ⟨s₂, v, L, h1, h2⟩ := k
  exact ⟨s₂, v, L, st _ h1, h2⟩
theorem Run.cast {K : KT} {Q : Option Value → Heap → Prop} {T : State} {g g' : JFrame} (q : g = g') (k : Run K Q T g') : Run K Q T g := q ▸ k
theorem Run.mono {K : KT} {Q Q' : Option Value → Heap → Prop} {T : State} {g : JFrame} (k : Run K Q T g) (q : ∀ v h, Q v h → Q' v h) : Run K Q' T g := by
  obtain ⟨s₂, v, L, h1, h2, h3, h4, h5⟩ := k
  exact ⟨s₂, v, L, h1, h2, h3, q _ _ h4, h5⟩
/-- the words of a sheet -/
def Tb (ws : List Jvm.Cond) (a0 : Array Value) (Z : State) : Prop := ∀ d ∈ ws, d.before a0 Z = true
theorem Tb.get {ws : List Jvm.Cond} {a0 : Array Value} {Z : State} (hw : Tb ws a0 Z) (i : Nat) {d : Jvm.Cond} (h : ws[i]? = some d) : d.before a0 Z = true := hw d (List.mem_of_getElem? h)
/-- an instruction, its length, the pc behind -/
def Dc (bytes : ByteArray) (pc : Nat) (i : Instr) (n pc' : Nat) : Prop := decode bytes pc = .ok (i, n) ∧ pc + n = pc'
/-- a branch: the pc behind, the pc that it goes to -/
def Db (bytes : ByteArray) (pc : Nat) (i : Instr) (o : Int) (pc' pt : Nat) : Prop := decode bytes pc = .ok (i, 3) ∧ pc + 3 = pc' ∧ 0 ≤ (pc : Int) + o ∧ ((pc : Int) + o).toNat = pt
theorem ne_new {a b : Addr} {h : Heap} (ea : a = h.size) (q : b < h.size) : a ≠ b := by subst ea; exact Nat.ne_of_gt q
theorem fr_new {h0 h : Heap} {a : Addr} (ea : a = h.size) (q : h0.size ≤ h.size) : h0.size ≤ a := ea ▸ q
theorem leb {a b : Nat} (h : Nat.ble a b = true) : a ≤ b := Nat.le_of_ble_eq_true h
theorem ltb {a b : Nat} (h : Nat.ble (a + 1) b = true) : a < b := Nat.le_of_ble_eq_true h
section Rules
variable {K : KT} {Q : Option Value → Heap → Prop} {T : State} {h : Heap} {cl sl : Nat} {y : MethodName} {bytes : ByteArray} {mx : Nat} {rt : Option FieldType} {R : Room} {pc pc' pt : Nat} {L : Array Slot} {S : List Value}
theorem r_top {v v' : Int32} (q : v = v') (k : Run K Q T (mkF K.m pc L (.int v' :: S))) : Run K Q T (mkF K.m pc L (.int v :: S)) := q ▸ k
theorem r_topL {v v' : Int64} (q : v = v') (k : Run K Q T (mkF K.m pc L (.long v' :: S))) : Run K Q T (mkF K.m pc L (.long v :: S)) := q ▸ k
theorem Sd.ge (X : Sd K T h cl sl) : K.n0 ≤ h.size := by obtain ⟨_, _, _, q, _⟩ := X; exact q
theorem r_iloadN {i : Fin 4} {v : Int32} (X : Sd K T h cl sl) (cx : Cx K y bytes mx rt R) (hd : Dc bytes pc (.iload_n i) 1 pc') (hl : L[i.val]? = some (.val (.int v))) (k : Run K Q T (mkF K.m pc' L (.int v :: S))) : Run K Q T (mkF K.m pc L (S)) := by
  obtain ⟨locs, X0, -⟩ := X; obtain ⟨hx, -, hby, -⟩ := cx; obtain ⟨d, rfl⟩ := hd
  exact Run.st (fun t q => XS.iloadN X0.here hx rfl (hb hby d) hl q) k
theorem r_iload {i : Nat} {v : Int32} (X : Sd K T h cl sl) (cx : Cx K y bytes mx rt R) (hd : Dc bytes pc (.iload i) 2 pc') (hl : L[i]? = some (.val (.int v))) (k : Run K Q T (mkF K.m pc' L (.int v :: S))) : Run K Q T (mkF K.m pc L (S)) := by
  obtain ⟨locs, X0, -⟩ := X; obtain ⟨hx, -, hby, -⟩ := cx; obtain ⟨d, rfl⟩ := hd
  exact Run.st (fun t q => XS.iload X0.here hx rfl (hb hby d) hl q) k
theorem r_lloadN {i : Fin 4} {v : Int64} (X : Sd K T h cl sl) (cx : Cx K y bytes mx rt R) (hd : Dc bytes pc (.lload_n i) 1 pc') (hl : L[i.val]? = some (.val (.long v))) (k : Run K Q T (mkF K.m pc' L (.long v :: S))) : Run K Q T (mkF K.m pc L (S)) := by
  obtain ⟨locs, X0, -⟩ := X; obtain ⟨hx, -, hby, -⟩ := cx; obtain ⟨d, rfl⟩ := hd
  exact Run.st (fun t q => XT.lloadN X0.here hx rfl (hb hby d) hl q) k
theorem r_lload {i : Nat} {v : Int64} (X : Sd K T h cl sl) (cx : Cx K y bytes mx rt R) (hd : Dc bytes pc (.lload i) 2 pc') (hl : L[i]? = some (.val (.long v))) (k : Run K Q T (mkF K.m pc' L (.long v :: S))) : Run K Q T (mkF K.m pc L (S)) := by
  obtain ⟨locs, X0, -⟩ := X; obtain ⟨hx, -, hby, -⟩ := cx; obtain ⟨d, rfl⟩ := hd
  exact Run.st (fun t q => XT.lload X0.here hx rfl (hb hby d) hl q) k
theorem r_aloadN {i : Fin 4} {v : Addr} (X : Sd K T h cl sl) (cx : Cx K y bytes mx rt R) (hd : Dc bytes pc (.aload_n i) 1 pc') (hl : L[i.val]? = some (.val (.ref v))) (k : Run K Q T (mkF K.m pc' L (.ref v :: S))) : Run K Q T (mkF K.m pc L (S)) := by
  obtain ⟨locs, X0, -⟩ := X; obtain ⟨hx, -, hby, -⟩ := cx; obtain ⟨d, rfl⟩ := hd
  exact Run.st (fun t q => XS.aloadN X0.here hx rfl (hb hby d) hl rfl q) k
theorem r_aload {i : Nat} {v : Addr} (X : Sd K T h cl sl) (cx : Cx K y bytes mx rt R) (hd : Dc bytes pc (.aload i) 2 pc') (hl : L[i]? = some (.val (.ref v))) (k : Run K Q T (mkF K.m pc' L (.ref v :: S))) : Run K Q T (mkF K.m pc L (S)) := by
  obtain ⟨locs, X0, -⟩ := X; obtain ⟨hx, -, hby, -⟩ := cx; obtain ⟨d, rfl⟩ := hd
  exact Run.st (fun t q => XS.aload X0.here hx rfl (hb hby d) hl rfl q) k
theorem r_iconst {i : Int} (v : Int32) (X : Sd K T h cl sl) (cx : Cx K y bytes mx rt R) (hd : Dc bytes pc (.iconst i) 1 pc') (hv : Int32.ofInt i = v) (k : Run K Q T (mkF K.m pc' L (.int v :: S))) : Run K Q T (mkF K.m pc L (S)) := by
  obtain ⟨locs, X0, -⟩ := X; obtain ⟨hx, -, hby, -⟩ := cx; obtain ⟨d, rfl⟩ := hd
  exact Run.st (fun t q => XT.iconstV X0.here hx rfl v (hb hby d) hv q) k
theorem r_bipush {i : Int} (v : Int32) (X : Sd K T h cl sl) (cx : Cx K y bytes mx rt R) (hd : Dc bytes pc (.bipush i) 2 pc') (hv : (Int8.ofInt i).toInt32 = v) (k : Run K Q T (mkF K.m pc' L (.int v :: S))) : Run K Q T (mkF K.m pc L (S)) := by
  obtain ⟨locs, X0, -⟩ := X; obtain ⟨hx, -, hby, -⟩ := cx; obtain ⟨d, rfl⟩ := hd
  exact Run.st (fun t q => XT.bipushV X0.here hx rfl v (hb hby d) hv q) k
theorem r_sipush {i : Int} (v : Int32) (X : Sd K T h cl sl) (cx : Cx K y bytes mx rt R) (hd : Dc bytes pc (.sipush i) 3 pc') (hv : (Int16.ofInt i).toInt32 = v) (k : Run K Q T (mkF K.m pc' L (.int v :: S))) : Run K Q T (mkF K.m pc L (S)) := by
  obtain ⟨locs, X0, -⟩ := X; obtain ⟨hx, -, hby, -⟩ := cx; obtain ⟨d, rfl⟩ := hd
  exact Run.st (fun t q => XT.sipushV X0.here hx rfl v (hb hby d) hv q) k
theorem r_lconst {i : Fin 2} (v : Int64) (X : Sd K T h cl sl) (cx : Cx K y bytes mx rt R) (hd : Dc bytes pc (.lconst i) 1 pc') (hv : Int64.ofNat i = v) (k : Run K Q T (mkF K.m pc' L (.long v :: S))) : Run K Q T (mkF K.m pc L (S)) := by
  obtain ⟨locs, X0, -⟩ := X; obtain ⟨hx, -, hby, -⟩ := cx; obtain ⟨d, rfl⟩ := hd
  exact Run.st (fun t q => XT.lconstV X0.here hx rfl v (hb hby d) hv q) k
theorem r_iadd {a b : Int32} (X : Sd K T h cl sl) (cx : Cx K y bytes mx rt R) (hd : Dc bytes pc .iadd 1 pc') (k : Run K Q T (mkF K.m pc' L (.int (a + b) :: S))) : Run K Q T (mkF K.m pc L (.int b :: .int a :: S)) := by
  obtain ⟨locs, X0, -⟩ := X; obtain ⟨hx, -, hby, -⟩ := cx; obtain ⟨d, rfl⟩ := hd
  exact Run.st (fun t q => XS.iadd X0.here hx rfl (hb hby d) rfl q) k
theorem r_isub {a b : Int32} (X : Sd K T h cl sl) (cx : Cx K y bytes mx rt R) (hd : Dc bytes pc .isub 1 pc') (k : Run K Q T (mkF K.m pc' L (.int (a - b) :: S))) : Run K Q T (mkF K.m pc L (.int b :: .int a :: S)) := by
  obtain ⟨locs, X0, -⟩ := X; obtain ⟨hx, -, hby, -⟩ := cx; obtain ⟨d, rfl⟩ := hd
  exact Run.st (fun t q => XS.isub X0.here hx rfl (hb hby d) rfl q) k
theorem r_imul {a b : Int32} (X : Sd K T h cl sl) (cx : Cx K y bytes mx rt R) (hd : Dc bytes pc .imul 1 pc') (k : Run K Q T (mkF K.m pc' L (.int (a * b) :: S))) : Run K Q T (mkF K.m pc L (.int b :: .int a :: S)) := by
  obtain ⟨locs, X0, -⟩ := X; obtain ⟨hx, -, hby, -⟩ := cx; obtain ⟨d, rfl⟩ := hd
  exact Run.st (fun t q => XS.imul X0.here hx rfl (hb hby d) rfl q) k
theorem r_iand {a b : Int32} (X : Sd K T h cl sl) (cx : Cx K y bytes mx rt R) (hd : Dc bytes pc .iand 1 pc') (k : Run K Q T (mkF K.m pc' L (.int (a &&& b) :: S))) : Run K Q T (mkF K.m pc L (.int b :: .int a :: S)) := by
  obtain ⟨locs, X0, -⟩ := X; obtain ⟨hx, -, hby, -⟩ := cx; obtain ⟨d, rfl⟩ := hd
  exact Run.st (fun t q => XS.iand X0.here hx rfl (hb hby d) rfl q) k
theorem r_ior {a b : Int32} (X : Sd K T h cl sl) (cx : Cx K y bytes mx rt R) (hd : Dc bytes pc .ior 1 pc') (k : Run K Q T (mkF K.m pc' L (.int (a ||| b) :: S))) : Run K Q T (mkF K.m pc L (.int b :: .int a :: S)) := by
  obtain ⟨locs, X0, -⟩ := X; obtain ⟨hx, -, hby, -⟩ := cx; obtain ⟨d, rfl⟩ := hd
  exact Run.st (fun t q => XT.ior X0.here hx rfl (hb hby d) rfl q) k
theorem r_ixor {a b : Int32} (X : Sd K T h cl sl) (cx : Cx K y bytes mx rt R) (hd : Dc bytes pc .ixor 1 pc') (k : Run K Q T (mkF K.m pc' L (.int (a ^^^ b) :: S))) : Run K Q T (mkF K.m pc L (.int b :: .int a :: S)) := by
  obtain ⟨locs, X0, -⟩ := X; obtain ⟨hx, -, hby, -⟩ := cx; obtain ⟨d, rfl⟩ := hd
  exact Run.st (fun t q => XT.ixor X0.here hx rfl (hb hby d) rfl q) k
theorem r_ishl {a b : Int32} (X : Sd K T h cl sl) (cx : Cx K y bytes mx rt R) (hd : Dc bytes pc .ishl 1 pc') (k : Run K Q T (mkF K.m pc' L (.int (a <<< (b &&& 31)) :: S))) : Run K Q T (mkF K.m pc L (.int b :: .int a :: S)) := by
  obtain ⟨locs, X0, -⟩ := X; obtain ⟨hx, -, hby, -⟩ := cx; obtain ⟨d, rfl⟩ := hd
  exact Run.st (fun t q => XT.ishl X0.here hx rfl (hb hby d) rfl q) k
theorem r_ishr {a b : Int32} (X : Sd K T h cl sl) (cx : Cx K y bytes mx rt R) (hd : Dc bytes pc .ishr 1 pc') (k : Run K Q T (mkF K.m pc' L (.int (a >>> (b &&& 31)) :: S))) : Run K Q T (mkF K.m pc L (.int b :: .int a :: S)) := by
  obtain ⟨locs, X0, -⟩ := X; obtain ⟨hx, -, hby, -⟩ := cx; obtain ⟨d, rfl⟩ := hd
  exact Run.st (fun t q => XT.ishr X0.here hx rfl (hb hby d) rfl q) k
theorem r_iushr {a b : Int32} (X : Sd K T h cl sl) (cx : Cx K y bytes mx rt R) (hd : Dc bytes pc .iushr 1 pc') (k : Run K Q T (mkF K.m pc' L (.int (XT.ushr a b) :: S))) : Run K Q T (mkF K.m pc L (.int b :: .int a :: S)) := by
  obtain ⟨locs, X0, -⟩ := X; obtain ⟨hx, -, hby, -⟩ := cx; obtain ⟨d, rfl⟩ := hd
  exact Run.st (fun t q => XT.iushr X0.here hx rfl (hb hby d) rfl q) k
theorem r_idiv {a b : Int32} (X : Sd K T h cl sl) (cx : Cx K y bytes mx rt R) (hd : Dc bytes pc .idiv 1 pc') (hne : b ≠ 0) (k : Run K Q T (mkF K.m pc' L (.int (a / b) :: S))) : Run K Q T (mkF K.m pc L (.int b :: .int a :: S)) := by
  obtain ⟨locs, X0, -⟩ := X; obtain ⟨hx, -, hby, -⟩ := cx; obtain ⟨d, rfl⟩ := hd
  exact Run.st (fun t q => XS.idiv X0.here hx rfl (hb hby d) rfl hne q) k
theorem r_irem {a b : Int32} (X : Sd K T h cl sl) (cx : Cx K y bytes mx rt R) (hd : Dc bytes pc .irem 1 pc') (hne : b ≠ 0) (k : Run K Q T (mkF K.m pc' L (.int (a - (a / b) * b) :: S))) : Run K Q T (mkF K.m pc L (.int b :: .int a :: S)) := by
  obtain ⟨locs, X0, -⟩ := X; obtain ⟨hx, -, hby, -⟩ := cx; obtain ⟨d, rfl⟩ := hd
  exact Run.st (fun t q => XS.irem X0.here hx rfl (hb hby d) rfl hne q) k
theorem r_ladd {a b : Int64} (X : Sd K T h cl sl) (cx : Cx K y bytes mx rt R) (hd : Dc bytes pc .ladd 1 pc') (k : Run K Q T (mkF K.m pc' L (.long (a + b) :: S))) : Run K Q T (mkF K.m pc L (.long b :: .long a :: S)) := by
  obtain ⟨locs, X0, -⟩ := X; obtain ⟨hx, -, hby, -⟩ := cx; obtain ⟨d, rfl⟩ := hd
  exact Run.st (fun t q => XT.ladd X0.here hx rfl (hb hby d) rfl q) k
theorem r_lsub {a b : Int64} (X : Sd K T h cl sl) (cx : Cx K y bytes mx rt R) (hd : Dc bytes pc .lsub 1 pc') (k : Run K Q T (mkF K.m pc' L (.long (a - b) :: S))) : Run K Q T (mkF K.m pc L (.long b :: .long a :: S)) := by
  obtain ⟨locs, X0, -⟩ := X; obtain ⟨hx, -, hby, -⟩ := cx; obtain ⟨d, rfl⟩ := hd
  exact Run.st (fun t q => XT.lsub X0.here hx rfl (hb hby d) rfl q) k
theorem r_lmul {a b : Int64} (X : Sd K T h cl sl) (cx : Cx K y bytes mx rt R) (hd : Dc bytes pc .lmul 1 pc') (k : Run K Q T (mkF K.m pc' L (.long (a * b) :: S))) : Run K Q T (mkF K.m pc L (.long b :: .long a :: S)) := by
  obtain ⟨locs, X0, -⟩ := X; obtain ⟨hx, -, hby, -⟩ := cx; obtain ⟨d, rfl⟩ := hd
  exact Run.st (fun t q => XT.lmul X0.here hx rfl (hb hby d) rfl q) k
theorem r_land {a b : Int64} (X : Sd K T h cl sl) (cx : Cx K y bytes mx rt R) (hd : Dc bytes pc .land 1 pc') (k : Run K Q T (mkF K.m pc' L (.long (a &&& b) :: S))) : Run K Q T (mkF K.m pc L (.long b :: .long a :: S)) := by
  obtain ⟨locs, X0, -⟩ := X; obtain ⟨hx, -, hby, -⟩ := cx; obtain ⟨d, rfl⟩ := hd
  exact Run.st (fun t q => XT.land X0.here hx rfl (hb hby d) rfl q) k
theorem r_lor {a b : Int64} (X : Sd K T h cl sl) (cx : Cx K y bytes mx rt R) (hd : Dc bytes pc .lor 1 pc') (k : Run K Q T (mkF K.m pc' L (.long (a ||| b) :: S))) : Run K Q T (mkF K.m pc L (.long b :: .long a :: S)) := by
  obtain ⟨locs, X0, -⟩ := X; obtain ⟨hx, -, hby, -⟩ := cx; obtain ⟨d, rfl⟩ := hd
  exact Run.st (fun t q => XT.lor X0.here hx rfl (hb hby d) rfl q) k
theorem r_lxor {a b : Int64} (X : Sd K T h cl sl) (cx : Cx K y bytes mx rt R) (hd : Dc bytes pc .lxor 1 pc') (k : Run K Q T (mkF K.m pc' L (.long (a ^^^ b) :: S))) : Run K Q T (mkF K.m pc L (.long b :: .long a :: S)) := by
  obtain ⟨locs, X0, -⟩ := X; obtain ⟨hx, -, hby, -⟩ := cx; obtain ⟨d, rfl⟩ := hd
  exact Run.st (fun t q => XT.lxor X0.here hx rfl (hb hby d) rfl q) k
theorem r_ldiv {a b : Int64} (X : Sd K T h cl sl) (cx : Cx K y bytes mx rt R) (hd : Dc bytes pc .ldiv 1 pc') (hne : b ≠ 0) (k : Run K Q T (mkF K.m pc' L (.long (a / b) :: S))) : Run K Q T (mkF K.m pc L (.long b :: .long a :: S)) := by
  obtain ⟨locs, X0, -⟩ := X; obtain ⟨hx, -, hby, -⟩ := cx; obtain ⟨d, rfl⟩ := hd
  exact Run.st (fun t q => XT.ldiv X0.here hx rfl (hb hby d) rfl hne q) k
theorem r_lrem {a b : Int64} (X : Sd K T h cl sl) (cx : Cx K y bytes mx rt R) (hd : Dc bytes pc .lrem 1 pc') (hne : b ≠ 0) (k : Run K Q T (mkF K.m pc' L (.long (a - (a / b) * b) :: S))) : Run K Q T (mkF K.m pc L (.long b :: .long a :: S)) := by
  obtain ⟨locs, X0, -⟩ := X; obtain ⟨hx, -, hby, -⟩ := cx; obtain ⟨d, rfl⟩ := hd
  exact Run.st (fun t q => XT.lrem X0.here hx rfl (hb hby d) rfl hne q) k
theorem r_lshl {a : Int64} {b : Int32} (X : Sd K T h cl sl) (cx : Cx K y bytes mx rt R) (hd : Dc bytes pc .lshl 1 pc') (k : Run K Q T (mkF K.m pc' L (.long (a <<< (b.toInt64 &&& 63)) :: S))) : Run K Q T (mkF K.m pc L (.int b :: .long a :: S)) := by
  obtain ⟨locs, X0, -⟩ := X; obtain ⟨hx, -, hby, -⟩ := cx; obtain ⟨d, rfl⟩ := hd
  exact Run.st (fun t q => XT.lshl X0.here hx rfl (hb hby d) rfl q) k
theorem r_lshr {a : Int64} {b : Int32} (X : Sd K T h cl sl) (cx : Cx K y bytes mx rt R) (hd : Dc bytes pc .lshr 1 pc') (k : Run K Q T (mkF K.m pc' L (.long (a >>> (b.toInt64 &&& 63)) :: S))) : Run K Q T (mkF K.m pc L (.int b :: .long a :: S)) := by
  obtain ⟨locs, X0, -⟩ := X; obtain ⟨hx, -, hby, -⟩ := cx; obtain ⟨d, rfl⟩ := hd
  exact Run.st (fun t q => XT.lshr X0.here hx rfl (hb hby d) rfl q) k
theorem r_lushr {a : Int64} {b : Int32} (X : Sd K T h cl sl) (cx : Cx K y bytes mx rt R) (hd : Dc bytes pc .lushr 1 pc') (k : Run K Q T (mkF K.m pc' L (.long (XT.ushrL a b) :: S))) : Run K Q T (mkF K.m pc L (.int b :: .long a :: S)) := by
  obtain ⟨locs, X0, -⟩ := X; obtain ⟨hx, -, hby, -⟩ := cx; obtain ⟨d, rfl⟩ := hd
  exact Run.st (fun t q => XT.lushr X0.here hx rfl (hb hby d) rfl q) k
theorem r_ineg {a : Int32} (X : Sd K T h cl sl) (cx : Cx K y bytes mx rt R) (hd : Dc bytes pc .ineg 1 pc') (k : Run K Q T (mkF K.m pc' L (.int (-a) :: S))) : Run K Q T (mkF K.m pc L (.int a :: S)) := by
  obtain ⟨locs, X0, -⟩ := X; obtain ⟨hx, -, hby, -⟩ := cx; obtain ⟨d, rfl⟩ := hd
  exact Run.st (fun t q => XS.ineg X0.here hx rfl (hb hby d) rfl q) k
theorem r_i2l {a : Int32} (X : Sd K T h cl sl) (cx : Cx K y bytes mx rt R) (hd : Dc bytes pc .i2l 1 pc') (k : Run K Q T (mkF K.m pc' L (.long a.toInt64 :: S))) : Run K Q T (mkF K.m pc L (.int a :: S)) := by
  obtain ⟨locs, X0, -⟩ := X; obtain ⟨hx, -, hby, -⟩ := cx; obtain ⟨d, rfl⟩ := hd
  exact Run.st (fun t q => XT.i2l X0.here hx rfl (hb hby d) rfl q) k
theorem r_l2i {a : Int64} (X : Sd K T h cl sl) (cx : Cx K y bytes mx rt R) (hd : Dc bytes pc .l2i 1 pc') (k : Run K Q T (mkF K.m pc' L (.int a.toInt32 :: S))) : Run K Q T (mkF K.m pc L (.long a :: S)) := by
  obtain ⟨locs, X0, -⟩ := X; obtain ⟨hx, -, hby, -⟩ := cx; obtain ⟨d, rfl⟩ := hd
  exact Run.st (fun t q => XT.l2i X0.here hx rfl (hb hby d) rfl q) k
theorem r_i2b {a : Int32} (X : Sd K T h cl sl) (cx : Cx K y bytes mx rt R) (hd : Dc bytes pc .i2b 1 pc') (k : Run K Q T (mkF K.m pc' L (.int a.toInt8.toInt32 :: S))) : Run K Q T (mkF K.m pc L (.int a :: S)) := by
  obtain ⟨locs, X0, -⟩ := X; obtain ⟨hx, -, hby, -⟩ := cx; obtain ⟨d, rfl⟩ := hd
  exact Run.st (fun t q => XT.i2b X0.here hx rfl (hb hby d) rfl q) k
theorem r_i2s {a : Int32} (X : Sd K T h cl sl) (cx : Cx K y bytes mx rt R) (hd : Dc bytes pc .i2s 1 pc') (k : Run K Q T (mkF K.m pc' L (.int a.toInt16.toInt32 :: S))) : Run K Q T (mkF K.m pc L (.int a :: S)) := by
  obtain ⟨locs, X0, -⟩ := X; obtain ⟨hx, -, hby, -⟩ := cx; obtain ⟨d, rfl⟩ := hd
  exact Run.st (fun t q => XT.i2s X0.here hx rfl (hb hby d) rfl q) k
theorem r_lcmp {a b : Int64} (X : Sd K T h cl sl) (cx : Cx K y bytes mx rt R) (hd : Dc bytes pc .lcmp 1 pc') (k : Run K Q T (mkF K.m pc' L (.int (XT.cmpL a b) :: S))) : Run K Q T (mkF K.m pc L (.long b :: .long a :: S)) := by
  obtain ⟨locs, X0, -⟩ := X; obtain ⟨hx, -, hby, -⟩ := cx; obtain ⟨d, rfl⟩ := hd
  exact Run.st (fun t q => XT.lcmp X0.here hx rfl (hb hby d) rfl q) k
theorem r_dup {v : Value} (X : Sd K T h cl sl) (cx : Cx K y bytes mx rt R) (hd : Dc bytes pc .dup 1 pc') (hc : v.category = 1) (k : Run K Q T (mkF K.m pc' L (v :: v :: S))) : Run K Q T (mkF K.m pc L (v :: S)) := by
  obtain ⟨locs, X0, -⟩ := X; obtain ⟨hx, -, hby, -⟩ := cx; obtain ⟨d, rfl⟩ := hd
  exact Run.st (fun t q => XS.dup X0.here hx rfl (hb hby d) rfl hc q) k
theorem r_pop {v : Value} (X : Sd K T h cl sl) (cx : Cx K y bytes mx rt R) (hd : Dc bytes pc .pop 1 pc') (hc : v.category = 1) (k : Run K Q T (mkF K.m pc' L (S))) : Run K Q T (mkF K.m pc L (v :: S)) := by
  obtain ⟨locs, X0, -⟩ := X; obtain ⟨hx, -, hby, -⟩ := cx; obtain ⟨d, rfl⟩ := hd
  exact Run.st (fun t q => XT.pop X0.here hx rfl (hb hby d) rfl hc q) k
theorem r_dup2 {v w : Value} (X : Sd K T h cl sl) (cx : Cx K y bytes mx rt R) (hd : Dc bytes pc .dup2 1 pc') (hc : v.category = 1) (hc2 : w.category = 1) (k : Run K Q T (mkF K.m pc' L (v :: w :: v :: w :: S))) : Run K Q T (mkF K.m pc L (v :: w :: S)) := by
  obtain ⟨locs, X0, -⟩ := X; obtain ⟨hx, -, hby, -⟩ := cx; obtain ⟨d, rfl⟩ := hd
  exact Run.st (fun t q => XT.dup2 X0.here hx rfl (hb hby d) rfl hc hc2 q) k
theorem r_dup_x1 {v w : Value} (X : Sd K T h cl sl) (cx : Cx K y bytes mx rt R) (hd : Dc bytes pc .dup_x1 1 pc') (hc : v.category = 1) (hc2 : w.category = 1) (k : Run K Q T (mkF K.m pc' L (v :: w :: v :: S))) : Run K Q T (mkF K.m pc L (v :: w :: S)) := by
  obtain ⟨locs, X0, -⟩ := X; obtain ⟨hx, -, hby, -⟩ := cx; obtain ⟨d, rfl⟩ := hd
  exact Run.st (fun t q => XT.dupX1 X0.here hx rfl (hb hby d) rfl hc hc2 q) k
theorem r_istoreN {i : Fin 4} {x : Int32} (L' : Int32 → Array Slot) (X : Sd K T h cl sl) (cx : Cx K y bytes mx rt R) (hd : Dc bytes pc (.istore_n i) 1 pc') (hl : ∀ v, storeLocals L i.val (.int v) = some (L' v)) (k : ∀ v, v = x → Run K Q T (mkF K.m pc' (L' v) S)) : Run K Q T (mkF K.m pc L (.int x :: S)) := by
  obtain ⟨locs, X0, -⟩ := X; obtain ⟨hx, -, hby, -⟩ := cx; obtain ⟨d, rfl⟩ := hd
  exact Run.st (fun t q => XS.istoreN X0.here hx rfl (hb hby d) rfl (hl x) q) (k x rfl)
theorem r_istore {i : Nat} {x : Int32} (L' : Int32 → Array Slot) (X : Sd K T h cl sl) (cx : Cx K y bytes mx rt R) (hd : Dc bytes pc (.istore i) 2 pc') (hl : ∀ v, storeLocals L i (.int v) = some (L' v)) (k : ∀ v, v = x → Run K Q T (mkF K.m pc' (L' v) S)) : Run K Q T (mkF K.m pc L (.int x :: S)) := by
  obtain ⟨locs, X0, -⟩ := X; obtain ⟨hx, -, hby, -⟩ := cx; obtain ⟨d, rfl⟩ := hd
  exact Run.st (fun t q => XS.istore X0.here hx rfl (hb hby d) rfl (hl x) q) (k x rfl)
theorem r_lstoreN {i : Fin 4} {x : Int64} (L' : Int64 → Array Slot) (X : Sd K T h cl sl) (cx : Cx K y bytes mx rt R) (hd : Dc bytes pc (.lstore_n i) 1 pc') (hl : ∀ v, storeLocals L i.val (.long v) = some (L' v)) (k : ∀ v, v = x → Run K Q T (mkF K.m pc' (L' v) S)) : Run K Q T (mkF K.m pc L (.long x :: S)) := by
  obtain ⟨locs, X0, -⟩ := X; obtain ⟨hx, -, hby, -⟩ := cx; obtain ⟨d, rfl⟩ := hd
  exact Run.st (fun t q => XT.lstoreN X0.here hx rfl (hb hby d) rfl (hl x) q) (k x rfl)
theorem r_lstore {i : Nat} {x : Int64} (L' : Int64 → Array Slot) (X : Sd K T h cl sl) (cx : Cx K y bytes mx rt R) (hd : Dc bytes pc (.lstore i) 2 pc') (hl : ∀ v, storeLocals L i (.long v) = some (L' v)) (k : ∀ v, v = x → Run K Q T (mkF K.m pc' (L' v) S)) : Run K Q T (mkF K.m pc L (.long x :: S)) := by
  obtain ⟨locs, X0, -⟩ := X; obtain ⟨hx, -, hby, -⟩ := cx; obtain ⟨d, rfl⟩ := hd
  exact Run.st (fun t q => XT.lstore X0.here hx rfl (hb hby d) rfl (hl x) q) (k x rfl)
theorem r_astoreN {i : Fin 4} {x : Addr} (L' : Array Slot) (X : Sd K T h cl sl) (cx : Cx K y bytes mx rt R) (hd : Dc bytes pc (.astore_n i) 1 pc') (hl : storeLocals L i.val (.ref x) = some L') (k : Run K Q T (mkF K.m pc' L' S)) : Run K Q T (mkF K.m pc L (.ref x :: S)) := by
  obtain ⟨locs, X0, -⟩ := X; obtain ⟨hx, -, hby, -⟩ := cx; obtain ⟨d, rfl⟩ := hd
  exact Run.st (fun t q => XS.astoreN X0.here hx rfl (hb hby d) rfl rfl hl q) k
theorem r_astore {i : Nat} {x : Addr} (L' : Array Slot) (X : Sd K T h cl sl) (cx : Cx K y bytes mx rt R) (hd : Dc bytes pc (.astore i) 2 pc') (hl : storeLocals L i (.ref x) = some L') (k : Run K Q T (mkF K.m pc' L' S)) : Run K Q T (mkF K.m pc L (.ref x :: S)) := by
  obtain ⟨locs, X0, -⟩ := X; obtain ⟨hx, -, hby, -⟩ := cx; obtain ⟨d, rfl⟩ := hd
  exact Run.st (fun t q => XS.astore X0.here hx rfl (hb hby d) rfl rfl hl q) k
theorem r_iinc {i : Nat} {cst : Int} {x : Int32} (w : Int32) (L' : Int32 → Array Slot) (X : Sd K T h cl sl) (cx : Cx K y bytes mx rt R) (hd : Dc bytes pc (.iinc i cst) 3 pc') (hv : Int32.ofInt cst = w) (ho : L[i]? = some (.val (.int x))) (hl : ∀ v, storeLocals L i (.int v) = some (L' v)) (k : ∀ v, v = x + w → Run K Q T (mkF K.m pc' (L' v) S)) : Run K Q T (mkF K.m pc L S) := by
  obtain ⟨locs, X0, -⟩ := X; obtain ⟨hx, -, hby, -⟩ := cx; obtain ⟨d, rfl⟩ := hd
  exact Run.st (fun t q => XT.iincV X0.here hx rfl w (hb hby d) hv ho (hl _) q) (k _ rfl)
theorem r_goto {o : Int} (X : Sd K T h cl sl) (cx : Cx K y bytes mx rt R) (hd : Db bytes pc (.goto o) o pc' pt) (k : Run K Q T (mkF K.m pt L S)) : Run K Q T (mkF K.m pc L S) := by
  obtain ⟨locs, X0, -⟩ := X; obtain ⟨hx, -, hby, -⟩ := cx; obtain ⟨d, -, ho, hp⟩ := hd
  exact Run.st (fun t q => XS.goto X0.here hx rfl (pc0 := pc) rfl (hb hby d) ho hp q) k
theorem r_icmpeq {o : Int} {a b : Int32} (X : Sd K T h cl sl) (cx : Cx K y bytes mx rt R) (hd : Db bytes pc (.if_icmp .eq o) o pc' pt) (k1 : a = b → Run K Q T (mkF K.m pt L S)) (k2 : ¬ a = b → Run K Q T (mkF K.m pc' L S)) : Run K Q T (mkF K.m pc L (.int b :: .int a :: S)) := by
  obtain ⟨locs, X0, -⟩ := X; obtain ⟨hx, -, hby, -⟩ := cx; obtain ⟨d, rfl, ho, hp⟩ := hd
  by_cases q : a = b
  · exact Run.st (fun t u => XS.icmpYes X0.here hx rfl (pc0 := pc) rfl (hb hby d) rfl (XT.ii_eq_t q) ho hp u) (k1 q)
  · exact Run.st (fun t u => XS.icmpNo X0.here hx rfl (hb hby d) rfl (XT.ii_eq_f q) u) (k2 q)
theorem r_ifeq {o : Int} {a : Int32} (X : Sd K T h cl sl) (cx : Cx K y bytes mx rt R) (hd : Db bytes pc (.ifCond .eq o) o pc' pt) (k1 : a = 0 → Run K Q T (mkF K.m pt L S)) (k2 : ¬ a = 0 → Run K Q T (mkF K.m pc' L S)) : Run K Q T (mkF K.m pc L (.int a :: S)) := by
  obtain ⟨locs, X0, -⟩ := X; obtain ⟨hx, -, hby, -⟩ := cx; obtain ⟨d, rfl, ho, hp⟩ := hd
  by_cases q : a = 0
  · exact Run.st (fun t u => XS.ifYes X0.here hx rfl (pc0 := pc) rfl (hb hby d) rfl (XT.i0_eq_t q) ho hp u) (k1 q)
  · exact Run.st (fun t u => XS.ifNo X0.here hx rfl (hb hby d) rfl (XT.i0_eq_f q) u) (k2 q)
theorem r_lcmpeq {o : Int} {a b : Int64} (X : Sd K T h cl sl) (cx : Cx K y bytes mx rt R) (hd : Db bytes pc (.ifCond .eq o) o pc' pt) (k1 : a = b → Run K Q T (mkF K.m pt L S)) (k2 : ¬ a = b → Run K Q T (mkF K.m pc' L S)) : Run K Q T (mkF K.m pc L (.int (XT.cmpL a b) :: S)) := by
  obtain ⟨locs, X0, -⟩ := X; obtain ⟨hx, -, hby, -⟩ := cx; obtain ⟨d, rfl, ho, hp⟩ := hd
  by_cases q : a = b
  · exact Run.st (fun t u => XS.ifYes X0.here hx rfl (pc0 := pc) rfl (hb hby d) rfl (XT.ll_eq_t q) ho hp u) (k1 q)
  · exact Run.st (fun t u => XS.ifNo X0.here hx rfl (hb hby d) rfl (XT.ll_eq_f q) u) (k2 q)
theorem r_icmpne {o : Int} {a b : Int32} (X : Sd K T h cl sl) (cx : Cx K y bytes mx rt R) (hd : Db bytes pc (.if_icmp .ne o) o pc' pt) (k1 : ¬ a = b → Run K Q T (mkF K.m pt L S)) (k2 : a = b → Run K Q T (mkF K.m pc' L S)) : Run K Q T (mkF K.m pc L (.int b :: .int a :: S)) := by
  obtain ⟨locs, X0, -⟩ := X; obtain ⟨hx, -, hby, -⟩ := cx; obtain ⟨d, rfl, ho, hp⟩ := hd
  by_cases q : a = b
  · exact Run.st (fun t u => XS.icmpNo X0.here hx rfl (hb hby d) rfl (XT.ii_ne_f q) u) (k2 q)
  · exact Run.st (fun t u => XS.icmpYes X0.here hx rfl (pc0 := pc) rfl (hb hby d) rfl (XT.ii_ne_t q) ho hp u) (k1 q)
theorem r_ifne {o : Int} {a : Int32} (X : Sd K T h cl sl) (cx : Cx K y bytes mx rt R) (hd : Db bytes pc (.ifCond .ne o) o pc' pt) (k1 : ¬ a = 0 → Run K Q T (mkF K.m pt L S)) (k2 : a = 0 → Run K Q T (mkF K.m pc' L S)) : Run K Q T (mkF K.m pc L (.int a :: S)) := by
  obtain ⟨locs, X0, -⟩ := X; obtain ⟨hx, -, hby, -⟩ := cx; obtain ⟨d, rfl, ho, hp⟩ := hd
  by_cases q : a = 0
  · exact Run.st (fun t u => XS.ifNo X0.here hx rfl (hb hby d) rfl (XT.i0_ne_f q) u) (k2 q)
  · exact Run.st (fun t u => XS.ifYes X0.here hx rfl (pc0 := pc) rfl (hb hby d) rfl (XT.i0_ne_t q) ho hp u) (k1 q)
theorem r_lcmpne {o : Int} {a b : Int64} (X : Sd K T h cl sl) (cx : Cx K y bytes mx rt R) (hd : Db bytes pc (.ifCond .ne o) o pc' pt) (k1 : ¬ a = b → Run K Q T (mkF K.m pt L S)) (k2 : a = b → Run K Q T (mkF K.m pc' L S)) : Run K Q T (mkF K.m pc L (.int (XT.cmpL a b) :: S)) := by
  obtain ⟨locs, X0, -⟩ := X; obtain ⟨hx, -, hby, -⟩ := cx; obtain ⟨d, rfl, ho, hp⟩ := hd
  by_cases q : a = b
  · exact Run.st (fun t u => XS.ifNo X0.here hx rfl (hb hby d) rfl (XT.ll_ne_f q) u) (k2 q)
  · exact Run.st (fun t u => XS.ifYes X0.here hx rfl (pc0 := pc) rfl (hb hby d) rfl (XT.ll_ne_t q) ho hp u) (k1 q)
theorem r_icmplt {o : Int} {a b : Int32} (X : Sd K T h cl sl) (cx : Cx K y bytes mx rt R) (hd : Db bytes pc (.if_icmp .lt o) o pc' pt) (k1 : a < b → Run K Q T (mkF K.m pt L S)) (k2 : ¬ a < b → Run K Q T (mkF K.m pc' L S)) : Run K Q T (mkF K.m pc L (.int b :: .int a :: S)) := by
  obtain ⟨locs, X0, -⟩ := X; obtain ⟨hx, -, hby, -⟩ := cx; obtain ⟨d, rfl, ho, hp⟩ := hd
  by_cases q : a < b
  · exact Run.st (fun t u => XS.icmpYes X0.here hx rfl (pc0 := pc) rfl (hb hby d) rfl (XT.ii_lt_t q) ho hp u) (k1 q)
  · exact Run.st (fun t u => XS.icmpNo X0.here hx rfl (hb hby d) rfl (XT.ii_lt_f q) u) (k2 q)
theorem r_iflt {o : Int} {a : Int32} (X : Sd K T h cl sl) (cx : Cx K y bytes mx rt R) (hd : Db bytes pc (.ifCond .lt o) o pc' pt) (k1 : a < 0 → Run K Q T (mkF K.m pt L S)) (k2 : ¬ a < 0 → Run K Q T (mkF K.m pc' L S)) : Run K Q T (mkF K.m pc L (.int a :: S)) := by
  obtain ⟨locs, X0, -⟩ := X; obtain ⟨hx, -, hby, -⟩ := cx; obtain ⟨d, rfl, ho, hp⟩ := hd
  by_cases q : a < 0
  · exact Run.st (fun t u => XS.ifYes X0.here hx rfl (pc0 := pc) rfl (hb hby d) rfl (XT.i0_lt_t q) ho hp u) (k1 q)
  · exact Run.st (fun t u => XS.ifNo X0.here hx rfl (hb hby d) rfl (XT.i0_lt_f q) u) (k2 q)
theorem r_lcmplt {o : Int} {a b : Int64} (X : Sd K T h cl sl) (cx : Cx K y bytes mx rt R) (hd : Db bytes pc (.ifCond .lt o) o pc' pt) (k1 : a < b → Run K Q T (mkF K.m pt L S)) (k2 : ¬ a < b → Run K Q T (mkF K.m pc' L S)) : Run K Q T (mkF K.m pc L (.int (XT.cmpL a b) :: S)) := by
  obtain ⟨locs, X0, -⟩ := X; obtain ⟨hx, -, hby, -⟩ := cx; obtain ⟨d, rfl, ho, hp⟩ := hd
  by_cases q : a < b
  · exact Run.st (fun t u => XS.ifYes X0.here hx rfl (pc0 := pc) rfl (hb hby d) rfl (XT.ll_lt_t q) ho hp u) (k1 q)
  · exact Run.st (fun t u => XS.ifNo X0.here hx rfl (hb hby d) rfl (XT.ll_lt_f q) u) (k2 q)
theorem r_icmpge {o : Int} {a b : Int32} (X : Sd K T h cl sl) (cx : Cx K y bytes mx rt R) (hd : Db bytes pc (.if_icmp .ge o) o pc' pt) (k1 : ¬ a < b → Run K Q T (mkF K.m pt L S)) (k2 : a < b → Run K Q T (mkF K.m pc' L S)) : Run K Q T (mkF K.m pc L (.int b :: .int a :: S)) := by
  obtain ⟨locs, X0, -⟩ := X; obtain ⟨hx, -, hby, -⟩ := cx; obtain ⟨d, rfl, ho, hp⟩ := hd
  by_cases q : a < b
  · exact Run.st (fun t u => XS.icmpNo X0.here hx rfl (hb hby d) rfl (XT.ii_ge_f q) u) (k2 q)
  · exact Run.st (fun t u => XS.icmpYes X0.here hx rfl (pc0 := pc) rfl (hb hby d) rfl (XT.ii_ge_t q) ho hp u) (k1 q)
theorem r_ifge {o : Int} {a : Int32} (X : Sd K T h cl sl) (cx : Cx K y bytes mx rt R) (hd : Db bytes pc (.ifCond .ge o) o pc' pt) (k1 : ¬ a < 0 → Run K Q T (mkF K.m pt L S)) (k2 : a < 0 → Run K Q T (mkF K.m pc' L S)) : Run K Q T (mkF K.m pc L (.int a :: S)) := by
  obtain ⟨locs, X0, -⟩ := X; obtain ⟨hx, -, hby, -⟩ := cx; obtain ⟨d, rfl, ho, hp⟩ := hd
  by_cases q : a < 0
  · exact Run.st (fun t u => XS.ifNo X0.here hx rfl (hb hby d) rfl (XT.i0_ge_f q) u) (k2 q)
  · exact Run.st (fun t u => XS.ifYes X0.here hx rfl (pc0 := pc) rfl (hb hby d) rfl (XT.i0_ge_t q) ho hp u) (k1 q)
theorem r_lcmpge {o : Int} {a b : Int64} (X : Sd K T h cl sl) (cx : Cx K y bytes mx rt R) (hd : Db bytes pc (.ifCond .ge o) o pc' pt) (k1 : ¬ a < b → Run K Q T (mkF K.m pt L S)) (k2 : a < b → Run K Q T (mkF K.m pc' L S)) : Run K Q T (mkF K.m pc L (.int (XT.cmpL a b) :: S)) := by
  obtain ⟨locs, X0, -⟩ := X; obtain ⟨hx, -, hby, -⟩ := cx; obtain ⟨d, rfl, ho, hp⟩ := hd
  by_cases q : a < b
  · exact Run.st (fun t u => XS.ifNo X0.here hx rfl (hb hby d) rfl (XT.ll_ge_f q) u) (k2 q)
  · exact Run.st (fun t u => XS.ifYes X0.here hx rfl (pc0 := pc) rfl (hb hby d) rfl (XT.ll_ge_t q) ho hp u) (k1 q)
theorem r_icmpgt {o : Int} {a b : Int32} (X : Sd K T h cl sl) (cx : Cx K y bytes mx rt R) (hd : Db bytes pc (.if_icmp .gt o) o pc' pt) (k1 : b < a → Run K Q T (mkF K.m pt L S)) (k2 : ¬ b < a → Run K Q T (mkF K.m pc' L S)) : Run K Q T (mkF K.m pc L (.int b :: .int a :: S)) := by
  obtain ⟨locs, X0, -⟩ := X; obtain ⟨hx, -, hby, -⟩ := cx; obtain ⟨d, rfl, ho, hp⟩ := hd
  by_cases q : b < a
  · exact Run.st (fun t u => XS.icmpYes X0.here hx rfl (pc0 := pc) rfl (hb hby d) rfl (XT.ii_gt_t q) ho hp u) (k1 q)
  · exact Run.st (fun t u => XS.icmpNo X0.here hx rfl (hb hby d) rfl (XT.ii_gt_f q) u) (k2 q)
theorem r_ifgt {o : Int} {a : Int32} (X : Sd K T h cl sl) (cx : Cx K y bytes mx rt R) (hd : Db bytes pc (.ifCond .gt o) o pc' pt) (k1 : 0 < a → Run K Q T (mkF K.m pt L S)) (k2 : ¬ 0 < a → Run K Q T (mkF K.m pc' L S)) : Run K Q T (mkF K.m pc L (.int a :: S)) := by
  obtain ⟨locs, X0, -⟩ := X; obtain ⟨hx, -, hby, -⟩ := cx; obtain ⟨d, rfl, ho, hp⟩ := hd
  by_cases q : 0 < a
  · exact Run.st (fun t u => XS.ifYes X0.here hx rfl (pc0 := pc) rfl (hb hby d) rfl (XT.i0_gt_t q) ho hp u) (k1 q)
  · exact Run.st (fun t u => XS.ifNo X0.here hx rfl (hb hby d) rfl (XT.i0_gt_f q) u) (k2 q)
theorem r_lcmpgt {o : Int} {a b : Int64} (X : Sd K T h cl sl) (cx : Cx K y bytes mx rt R) (hd : Db bytes pc (.ifCond .gt o) o pc' pt) (k1 : b < a → Run K Q T (mkF K.m pt L S)) (k2 : ¬ b < a → Run K Q T (mkF K.m pc' L S)) : Run K Q T (mkF K.m pc L (.int (XT.cmpL a b) :: S)) := by
  obtain ⟨locs, X0, -⟩ := X; obtain ⟨hx, -, hby, -⟩ := cx; obtain ⟨d, rfl, ho, hp⟩ := hd
  by_cases q : b < a
  · exact Run.st (fun t u => XS.ifYes X0.here hx rfl (pc0 := pc) rfl (hb hby d) rfl (XT.ll_gt_t q) ho hp u) (k1 q)
  · exact Run.st (fun t u => XS.ifNo X0.here hx rfl (hb hby d) rfl (XT.ll_gt_f q) u) (k2 q)
theorem r_icmple {o : Int} {a b : Int32} (X : Sd K T h cl sl) (cx : Cx K y bytes mx rt R) (hd : Db bytes pc (.if_icmp .le o) o pc' pt) (k1 : ¬ b < a → Run K Q T (mkF K.m pt L S)) (k2 : b < a → Run K Q T (mkF K.m pc' L S)) : Run K Q T (mkF K.m pc L (.int b :: .int a :: S)) := by
  obtain ⟨locs, X0, -⟩ := X; obtain ⟨hx, -, hby, -⟩ := cx; obtain ⟨d, rfl, ho, hp⟩ := hd
  by_cases q : b < a
  · exact Run.st (fun t u => XS.icmpNo X0.here hx rfl (hb hby d) rfl (XT.ii_le_f q) u) (k2 q)
  · exact Run.st (fun t u => XS.icmpYes X0.here hx rfl (pc0 := pc) rfl (hb hby d) rfl (XT.ii_le_t q) ho hp u) (k1 q)
theorem r_ifle {o : Int} {a : Int32} (X : Sd K T h cl sl) (cx : Cx K y bytes mx rt R) (hd : Db bytes pc (.ifCond .le o) o pc' pt) (k1 : ¬ 0 < a → Run K Q T (mkF K.m pt L S)) (k2 : 0 < a → Run K Q T (mkF K.m pc' L S)) : Run K Q T (mkF K.m pc L (.int a :: S)) := by
  obtain ⟨locs, X0, -⟩ := X; obtain ⟨hx, -, hby, -⟩ := cx; obtain ⟨d, rfl, ho, hp⟩ := hd
  by_cases q : 0 < a
  · exact Run.st (fun t u => XS.ifNo X0.here hx rfl (hb hby d) rfl (XT.i0_le_f q) u) (k2 q)
  · exact Run.st (fun t u => XS.ifYes X0.here hx rfl (pc0 := pc) rfl (hb hby d) rfl (XT.i0_le_t q) ho hp u) (k1 q)
theorem r_lcmple {o : Int} {a b : Int64} (X : Sd K T h cl sl) (cx : Cx K y bytes mx rt R) (hd : Db bytes pc (.ifCond .le o) o pc' pt) (k1 : ¬ b < a → Run K Q T (mkF K.m pt L S)) (k2 : b < a → Run K Q T (mkF K.m pc' L S)) : Run K Q T (mkF K.m pc L (.int (XT.cmpL a b) :: S)) := by
  obtain ⟨locs, X0, -⟩ := X; obtain ⟨hx, -, hby, -⟩ := cx; obtain ⟨d, rfl, ho, hp⟩ := hd
  by_cases q : b < a
  · exact Run.st (fun t u => XS.ifNo X0.here hx rfl (hb hby d) rfl (XT.ll_le_f q) u) (k2 q)
  · exact Run.st (fun t u => XS.ifYes X0.here hx rfl (pc0 := pc) rfl (hb hby d) rfl (XT.ll_le_t q) ho hp u) (k1 q)
theorem r_ldc {i : Nat} {v : Int32} {a0 : Array Value} (X : Sd K T h cl sl) (cx : Cx K y bytes mx rt R) (hd : Dc bytes pc (.ldc i) 2 pc') (w : (Cond.constant y.cls i v).before a0 K.Z = true) (k : Run K Q T (mkF K.m pc' L (.int v :: S))) : Run K Q T (mkF K.m pc L S) := by
  obtain ⟨locs, X0, -⟩ := X; obtain ⟨hx, hZ, hby, -, hown, -⟩ := cx; obtain ⟨d, rfl⟩ := hd
  exact Run.st (fun t q => Jvm.Stand.ldcI X0 hx hown (mv hZ w) rfl (hb hby d) q) k
theorem r_ldcW {i : Nat} {v : Int32} {a0 : Array Value} (X : Sd K T h cl sl) (cx : Cx K y bytes mx rt R) (hd : Dc bytes pc (.ldc_w i) 3 pc') (w : (Cond.constant y.cls i v).before a0 K.Z = true) (k : Run K Q T (mkF K.m pc' L (.int v :: S))) : Run K Q T (mkF K.m pc L S) := by
  obtain ⟨locs, X0, -⟩ := X; obtain ⟨hx, hZ, hby, -, hown, -⟩ := cx; obtain ⟨d, rfl⟩ := hd
  exact Run.st (fun t q => Jvm.Stand.ldcWI X0 hx hown (mv hZ w) rfl (hb hby d) q) k
theorem r_ldc2 {i : Nat} {v : Int64} {a0 : Array Value} (X : Sd K T h cl sl) (cx : Cx K y bytes mx rt R) (hd : Dc bytes pc (.ldc2_w i) 3 pc') (w : (Cond.constantLong y.cls i v).before a0 K.Z = true) (k : Run K Q T (mkF K.m pc' L (.long v :: S))) : Run K Q T (mkF K.m pc L S) := by
  obtain ⟨locs, X0, -⟩ := X; obtain ⟨hx, hZ, hby, -, hown, -⟩ := cx; obtain ⟨d, rfl⟩ := hd
  exact Run.st (fun t q => Jvm.Stand.ldc2J X0 hx hown (mv hZ w) rfl (hb hby d) q) k
theorem fin {v : Option Value} (X : Sd K T h cl sl) (cx : Cx K y bytes mx rt R) (hv : rt = none → v = none) (hc : cl ≤ R.cells) (hs : sl ≤ R.slots) (hq : Q v h) {g : JFrame}
    (st : ∀ fs, (∀ (f : JFrame) (acts : List Action), f.method = K.m → f.locked = none → f.entered = [] → (doReturn K.e (T.setTop f) acts v).1 = T.setFrames fs) → Steps K.p.tables K.e K.below (T.setTop g) (T.setFrames fs)) : Run K Q T g := by
  obtain ⟨locs, X0, N, hz, eT⟩ := X
  obtain ⟨hx, hZ, hby, hml, hown, hret, hlk, hR, hnm⟩ := cx
  obtain ⟨fs, hr, hrun, hended, hW, hsame⟩ := X0.leave (v := v) (fun q => hv (hret.symm.trans q)) hlk
  refine ⟨_, v, locs, st fs hr, hrun, hended, ?_, N, ⟨_, rfl⟩, hW, hsame.mono (by rw [hR]; exact hc) (by rw [hR]; exact hs)⟩
  show Q v T.heap
  rw [eT]; exact hq
theorem r_ireturn {z : Int32} (X : Sd K T h cl sl) (cx : Cx K y bytes mx (some .int) R) (hd : Dc bytes pc .ireturn 1 pc') (hc : cl ≤ R.cells) (hs : sl ≤ R.slots) (hq : Q (some (.int z)) h) : Run K Q T (mkF K.m pc L (.int z :: S)) := by
  refine fin X cx (fun q => nomatch q) hc hs hq fun fs hr => ?_
  obtain ⟨locs, X0, -⟩ := X; obtain ⟨hx, -, hby, -, -, hret, -⟩ := cx; obtain ⟨d, rfl⟩ := hd
  exact retI X0 hx hret (hb hby d) hr
theorem r_zreturn {z : Int32} (X : Sd K T h cl sl) (cx : Cx K y bytes mx (some .boolean) R) (hd : Dc bytes pc .ireturn 1 pc') (hc : cl ≤ R.cells) (hs : sl ≤ R.slots) (hq : Q (some (.int (nar .boolean z))) h) : Run K Q T (mkF K.m pc L (.int z :: S)) := by
  refine fin X cx (fun q => nomatch q) hc hs hq fun fs hr => ?_
  obtain ⟨locs, X0, -⟩ := X; obtain ⟨hx, -, hby, -, -, hret, -⟩ := cx; obtain ⟨d, rfl⟩ := hd
  exact retN X0 hx (t := .boolean) hret (by simp) (hb hby d) hr
theorem r_lreturn {z : Int64} (X : Sd K T h cl sl) (cx : Cx K y bytes mx (some .long) R) (hd : Dc bytes pc .lreturn 1 pc') (hc : cl ≤ R.cells) (hs : sl ≤ R.slots) (hq : Q (some (.long z)) h) : Run K Q T (mkF K.m pc L [.long z]) := by
  refine fin X cx (fun q => nomatch q) hc hs hq fun fs hr => ?_
  obtain ⟨locs, X0, -⟩ := X; obtain ⟨hx, -, hby, -, -, hret, -⟩ := cx; obtain ⟨d, rfl⟩ := hd
  exact X0.lreturnOut hx hret (hb hby d) hr
theorem r_areturn {z : Addr} {ty : FieldType} (X : Sd K T h cl sl) (cx : Cx K y bytes mx (some ty) R) (hty : ty.isReference = true) (hd : Dc bytes pc .areturn 1 pc') (hc : cl ≤ R.cells) (hs : sl ≤ R.slots) (hq : Q (some (.ref z)) h) : Run K Q T (mkF K.m pc L [.ref z]) := by
  refine fin X cx (fun q => nomatch q) hc hs hq fun fs hr => ?_
  obtain ⟨locs, X0, -⟩ := X; obtain ⟨hx, -, hby, -, -, hret, -⟩ := cx; obtain ⟨d, rfl⟩ := hd
  exact X0.areturnOut hx rfl hret hty (hb hby d) hr
theorem r_return (X : Sd K T h cl sl) (cx : Cx K y bytes mx none R) (hd : Dc bytes pc .return_ 1 pc') (hc : cl ≤ R.cells) (hs : sl ≤ R.slots) (hq : Q none h) : Run K Q T (mkF K.m pc L []) := by
  refine fin X cx (fun _ => rfl) hc hs hq fun fs hr => ?_
  obtain ⟨locs, X0, -⟩ := X; obtain ⟨hx, -, hby, -, -, hret, -⟩ := cx; obtain ⟨d, rfl⟩ := hd
  exact X0.returnOut hx hret (hb hby d) hr
/-! fields -/
theorem r_getfield {O n d : String} {i : Nat} {a : Addr} {v : Value} {a0 : Array Value} (X : Sd K T h cl sl) (cx : Cx K y bytes mx rt R) (hd : Dc bytes pc (.getfield i) 3 pc') (w : (Cond.fieldLink y.cls i O n d).before a0 K.Z = true) (F : Fld K.Z h a O n d v) (k : ∀ T', Sd K T' h cl sl → Run K Q T' (mkF K.m pc' L (v :: S))) : Run K Q T (mkF K.m pc L (.ref a :: S)) := by
  obtain ⟨locs, X0, N, hz, eT⟩ := X; obtain ⟨hx, hZ, hby, -, hown, -⟩ := cx; obtain ⟨dd, rfl⟩ := hd
  obtain ⟨T1, X1, e1, st1⟩ := getF X0 hx hZ hown (host := "") (Or.inl w) Via.refl eT F (g := mkF K.m pc L (.ref a :: S)) rfl rfl (hb hby dd)
  exact Run.st st1 (k T1 ⟨locs, X1, N, hz, e1⟩)
theorem r_getfieldN {O n d host : String} {i : Nat} {a : Addr} {v : Value} {a0 : Array Value} (X : Sd K T h cl sl) (cx : Cx K y bytes mx rt R) (hd : Dc bytes pc (.getfield i) 3 pc') (w : (Cond.fieldLinkNest y.cls i O n d host).before a0 K.Z = true) (F : Fld K.Z h a O n d v) (k : ∀ T', Sd K T' h cl sl → Run K Q T' (mkF K.m pc' L (v :: S))) : Run K Q T (mkF K.m pc L (.ref a :: S)) := by
  obtain ⟨locs, X0, N, hz, eT⟩ := X; obtain ⟨hx, hZ, hby, -, hown, -⟩ := cx; obtain ⟨dd, rfl⟩ := hd
  obtain ⟨T1, X1, e1, st1⟩ := getF X0 hx hZ hown (host := host) (Or.inr w) Via.refl eT F (g := mkF K.m pc L (.ref a :: S)) rfl rfl (hb hby dd)
  exact Run.st st1 (k T1 ⟨locs, X1, N, hz, e1⟩)
theorem r_putfield {O n d C : String} {i kk : Nat} {a : Addr} {v old : Value} {ty : FieldType} {a0 : Array Value} (X : Sd K T h cl sl) (cx : Cx K y bytes mx rt R) (hd : Dc bytes pc (.putfield i) 3 pc') (w : (Cond.fieldLink y.cls i O n d).before a0 K.Z = true) (F : Fld K.Z h a O n d old) (E : Exa K.Z h a C) (hL : (Cond.lays C O n d).before a0 K.Z = true ∨ ((Cond.laysFinal C O n d).before a0 K.Z = true ∧ y.cls = O ∧ y.name = "<init>")) (wi : (Cond.instantiable C kk).before a0 K.Z = true)
    (hty : parseFieldDescriptor d = some ty) (hn : narrow ty v = v) (hf : fits ty v = true) (ge : K.n0 ≤ a) (k : ∀ T' h', Sd K T' h' cl sl → Wr h h' a (Jvm.RoadKit.slotOf K.Z O n d) v → Fld K.Z h' a O n d v → Run K Q T' (mkF K.m pc' L S)) : Run K Q T (mkF K.m pc L (v :: .ref a :: S)) := by
  obtain ⟨locs, X0, N, hz, eT⟩ := X; obtain ⟨hx, hZ, hby, -, hown, -, -, -, hnm⟩ := cx; obtain ⟨dd, rfl⟩ := hd
  obtain ⟨T1, h1, X1, e1, W1, st1⟩ := putF X0 hx hZ hown (host := "") (Or.inl w) Via.refl eT F E (hL.imp id fun q => ⟨q.1, q.2.1, hnm.trans q.2.2⟩) wi hty hn hf (g := mkF K.m pc L (v :: .ref a :: S)) rfl rfl (hb hby dd)
  exact Run.st st1 (k T1 h1 ⟨_, X1, Fr.snoc X1 N ge, by rw [W1.size]; exact hz, e1⟩ W1 (F.same W1))
theorem r_new {C : String} {i n : Nat} {a0 : Array Value} (X : Sd K T h cl sl) (cx : Cx K y bytes mx rt R) (hd : Dc bytes pc (.new i) 3 pc') (w : (Cond.classLink y.cls i C).before a0 K.Z = true) (wi : (Cond.instantiable C n).before a0 K.Z = true) (wz : (Cond.initialized C).before a0 K.Z = true) (hc : cl + 1 ≤ R.cells) (hs : sl + n ≤ R.slots)
    (k : ∀ T' h' a, a = h.size → K.n0 ≤ a → Sd K T' h' (cl + 1) (sl + n) → Ext h h' → Exa K.Z h' a C → (∀ {O nm d : String} {ty : FieldType}, Laid K.Z a0 C O nm d → parseFieldDescriptor d = some ty → Fld K.Z h' a O nm d (defaultValue ty)) → Run K Q T' (mkF K.m pc' L (.ref a :: S))) : Run K Q T (mkF K.m pc L S) := by
  obtain ⟨locs, X0, N, hz, eT⟩ := X; obtain ⟨hx, hZ, hby, -, hown, -, -, hR, -⟩ := cx; obtain ⟨dd, rfl⟩ := hd
  obtain ⟨T1, h1, X1, e1, E1, A1, D1, -, st1⟩ := newO X0 hx hZ hown w wi wz eT (g := mkF K.m pc L S) rfl (hb hby dd) (by rw [hR]; exact hc) (by rw [hR]; exact hs)
  exact Run.st st1 (k T1 h1 h.size rfl hz ⟨locs, X1, N, Nat.le_trans hz E1.1, e1⟩ E1 A1 D1)
theorem r_initO {i : Nat} {a : Addr} {a0 : Array Value} (X : Sd K T h cl sl) (cx : Cx K y bytes mx rt R) (hd : Dc bytes pc (.invokespecial i) 3 pc') (w1 : (Cond.methodLink y.cls i Lib.objectInit).before a0 K.Z = true) (w2 : (Cond.instanceMethod Lib.objectInit).before a0 K.Z = true) (w3 : (Cond.code Lib.objectInit ⟨#[0xb1]⟩ 1 none).before a0 K.Z = true) (hsz : L.size = mx) (hf : 1 ≤ R.frames) (hl : (S.map fun v => v.category).sum + 12 ≤ R.locals) (k : ∀ T', Sd K T' h cl sl → Run K Q T' (mkF K.m pc' L S)) : Run K Q T (mkF K.m pc L (.ref a :: S)) := by
  obtain ⟨locs, X0, N, hz, eT⟩ := X; obtain ⟨hx, hZ, hby, hml, hown, -, -, hR, -⟩ := cx; obtain ⟨dd, rfl⟩ := hd
  obtain ⟨T1, X1, e1, st1⟩ := initO X0 hx hZ hown w1 w2 w3 eT (g := mkF K.m pc L (.ref a :: S)) rfl (by rw [hml]; exact hsz) rfl (hb hby dd) (by rw [hR]; exact hf) (W := (S.map fun v => v.category).sum) (by show 2 * 0 + _ ≤ _; omega) (by rw [hR]; exact hl)
  exact Run.st st1 (k T1 ⟨locs, X1, N, hz, e1⟩)
end Rules
/-! arrays: their whole list of values -/
def AV (Z : State) (h : Heap) (a : Addr) (ty : FieldType) (vs : List Value) : Prop := ∃ c : Cell, Arr Z h a c ty ∧ c.slots.toList = vs ∧ vs.length < 2 ^ 31
def AI (ty : FieldType) (Z : State) (h : Heap) (a : Addr) (xs : List Int32) : Prop := AV Z h a ty (xs.map Value.int)
def AJ (Z : State) (h : Heap) (a : Addr) (xs : List Int64) : Prop := AV Z h a .long (xs.map Value.long)
theorem AV.ext {Z : State} {h h' : Heap} {a : Addr} {ty : FieldType} {vs : List Value} (A : AV Z h a ty vs) (E : Ext h h') : AV Z h' a ty vs := by obtain ⟨c, q, r⟩ := A; exact ⟨c, q.ext E, r⟩
theorem AV.other {Z : State} {h h' : Heap} {a b : Addr} {ty : FieldType} {vs : List Value} {sl : Nat} {v : Value} (A : AV Z h a ty vs) (W : Wr h h' b sl v) (q : a ≠ b) : AV Z h' a ty vs := by obtain ⟨c, u, r⟩ := A; exact ⟨c, u.other W q, r⟩
theorem AV.keep {Z : State} {h h' : Heap} {a : Addr} {ty : FieldType} {vs : List Value} {ws : List Addr} (A : AV Z h a ty vs) (k : Keep h h' ws) (q : a ∉ ws) : AV Z h' a ty vs := by obtain ⟨c, u, r⟩ := A; exact ⟨c, ⟨k.2.1 a c u.1 q, u.2⟩, r⟩
theorem AV.lt {Z : State} {h : Heap} {a : Addr} {ty : FieldType} {vs : List Value} (A : AV Z h a ty vs) : a < h.size := by obtain ⟨c, u, r⟩ := A; exact u.lt
theorem AV.len {Z : State} {h : Heap} {a : Addr} {ty : FieldType} {vs : List Value} (A : AV Z h a ty vs) : vs.length < 2 ^ 31 := by obtain ⟨c, u, r, q⟩ := A; exact q
theorem AV.set {Z : State} {h h' : Heap} {a : Addr} {ty : FieldType} {vs : List Value} {n : Nat} {v : Value} (A : AV Z h a ty vs) (W : Wr h h' a n v) : AV Z h' a ty (vs.set n v) := by
  obtain ⟨c, u, r, q⟩ := A
  refine ⟨_, u.same W, ?_, by simpa using q⟩
  subst r
  simp [Cell.setSlot]
section
variable {ty : FieldType} {Z : State} {h h' : Heap} {a b : Addr} {xs : List Int32} {zs : List Int64} {sl : Nat} {v : Value} {ws : List Addr}
theorem AI.ext (A : AI ty Z h a xs) (E : Ext h h') : AI ty Z h' a xs := AV.ext A E
theorem AI.other (A : AI ty Z h a xs) (W : Wr h h' b sl v) (q : a ≠ b) : AI ty Z h' a xs := AV.other A W q
theorem AI.keep (A : AI ty Z h a xs) (k : Keep h h' ws) (q : a ∉ ws) : AI ty Z h' a xs := AV.keep A k q
theorem AI.lt (A : AI ty Z h a xs) : a < h.size := AV.lt A
theorem AI.len (A : AI ty Z h a xs) : xs.length < 2 ^ 31 := by simpa using AV.len A
theorem AI.set {n : Nat} {x : Int32} (A : AI ty Z h a xs) (W : Wr h h' a n (.int x)) : AI ty Z h' a (xs.set n x) := by
  have q := AV.set A W
  show AV Z h' a ty ((xs.set n x).map Value.int)
  rw [List.map_set]; exact q
theorem AJ.ext (A : AJ Z h a zs) (E : Ext h h') : AJ Z h' a zs := AV.ext A E
theorem AJ.other (A : AJ Z h a zs) (W : Wr h h' b sl v) (q : a ≠ b) : AJ Z h' a zs := AV.other A W q
theorem AJ.keep (A : AJ Z h a zs) (k : Keep h h' ws) (q : a ∉ ws) : AJ Z h' a zs := AV.keep A k q
theorem AJ.lt (A : AJ Z h a zs) : a < h.size := AV.lt A
theorem AJ.len (A : AJ Z h a zs) : zs.length < 2 ^ 31 := by simpa using AV.len A
theorem AJ.set {n : Nat} {x : Int64} (A : AJ Z h a zs) (W : Wr h h' a n (.long x)) : AJ Z h' a (zs.set n x) := by
  have q := AV.set A W
  show AV Z h' a .long ((zs.set n x).map Value.long)
  rw [List.map_set]; exact q
end
theorem ofNat_neg {n : Nat} (hn : n < 2 ^ 31) : ¬ Int32.ofNat n < 0 := by
  rw [Int32.lt_iff_toInt_lt, Int32.toInt_ofNat_of_lt hn]
  show ¬ (n : Int) < 0
  omega
theorem ofNat_clamp {n : Nat} (hn : n < 2 ^ 31) : (Int32.ofNat n).toNatClampNeg = n := by
  show (Int32.ofNat n).toInt.toNat = n
  rw [Int32.toInt_ofNat_of_lt hn]; rfl
section Rules
variable {K : KT} {Q : Option Value → Heap → Prop} {T : State} {h : Heap} {cl sl : Nat} {y : MethodName} {bytes : ByteArray} {mx : Nat} {rt : Option FieldType} {R : Room} {pc pc' pt : Nat} {L : Array Slot} {S : List Value}
theorem r_arraylength {ty : FieldType} {vs : List Value} {a : Addr} (X : Sd K T h cl sl) (cx : Cx K y bytes mx rt R) (hd : Dc bytes pc .arraylength 1 pc') (A : AV K.Z h a ty vs) (k : Run K Q T (mkF K.m pc' L (.int (Int32.ofNat vs.length) :: S))) : Run K Q T (mkF K.m pc L (.ref a :: S)) := by
  obtain ⟨locs, X0, N, hz, eT⟩ := X; obtain ⟨hx, hZ, hby, -, hown, -⟩ := cx; obtain ⟨dd, rfl⟩ := hd
  obtain ⟨c, Ar, hc, hlen⟩ := A
  have hs : c.slots.size = vs.length := by rw [← hc]; simp
  refine Run.st (X0.arraylength hx (cell := c) (by rw [eT]; exact Ar.1) (State.isArrayOf_alike hZ.alike Ar.2.1) (g := mkF K.m pc L (.ref a :: S)) rfl (rest := S) rfl (hb hby dd)) ?_
  rw [hs]; exact k
theorem r_alen {ty : FieldType} {xs : List Int32} {a : Addr} (X : Sd K T h cl sl) (cx : Cx K y bytes mx rt R) (hd : Dc bytes pc .arraylength 1 pc') (A : AI ty K.Z h a xs) (n : Nat) (hn : xs.length = n) (k : Run K Q T (mkF K.m pc' L (.int (Int32.ofNat n) :: S))) : Run K Q T (mkF K.m pc L (.ref a :: S)) :=
  r_arraylength X cx hd A (by rw [List.length_map, hn]; exact k)
theorem r_alenJ {xs : List Int64} {a : Addr} (X : Sd K T h cl sl) (cx : Cx K y bytes mx rt R) (hd : Dc bytes pc .arraylength 1 pc') (A : AJ K.Z h a xs) (n : Nat) (hn : xs.length = n) (k : Run K Q T (mkF K.m pc' L (.int (Int32.ofNat n) :: S))) : Run K Q T (mkF K.m pc L (.ref a :: S)) :=
  r_arraylength X cx hd A (by rw [List.length_map, hn]; exact k)
theorem r_iaload {xs : List Int32} {a : Addr} {j : Int32} {v : Int32} (X : Sd K T h cl sl) (cx : Cx K y bytes mx rt R) (hd : Dc bytes pc .iaload 1 pc') (A : AI .int K.Z h a xs) (n : Nat) (hj : j = Int32.ofNat n) (hv : xs[n]? = some v) (k : Run K Q T (mkF K.m pc' L (.int v :: S))) : Run K Q T (mkF K.m pc L (.int j :: .ref a :: S)) := by
  obtain ⟨locs, X0, N, hz, eT⟩ := X; obtain ⟨hx, hZ, hby, -, hown, -⟩ := cx; obtain ⟨dd, rfl⟩ := hd
  obtain ⟨c, Ar, hc, hlen⟩ := A
  have hs : c.slots.size = xs.length := by have := congrArg List.length hc; simpa using this
  have hl : n < xs.length := (List.getElem?_eq_some_iff.mp hv).1
  have hn : n < 2 ^ 31 := by simp at hlen; omega
  subst hj
  have e1 := ofNat_clamp hn
  have hat : c.slots[(Int32.ofNat n).toNatClampNeg]? = some (.int v) := by
    rw [e1, ← Array.getElem?_toList, hc, List.getElem?_map, hv]; rfl
  exact Run.st (X0.iaload hx (cell := c) (by rw [eT]; exact Ar.1) (State.isArrayOf_alike hZ.alike Ar.2.1) Ar.2.2 (by rw [e1, hs]; intro q; rcases q with q | q; exact ofNat_neg hn q; omega) hat (g := mkF K.m pc L (.int (Int32.ofNat n) :: .ref a :: S)) rfl rfl (hb hby dd)) k
theorem r_saload {xs : List Int32} {a : Addr} {j : Int32} {v : Int32} (X : Sd K T h cl sl) (cx : Cx K y bytes mx rt R) (hd : Dc bytes pc .saload 1 pc') (A : AI .short K.Z h a xs) (n : Nat) (hj : j = Int32.ofNat n) (hv : xs[n]? = some v) (k : Run K Q T (mkF K.m pc' L (.int v :: S))) : Run K Q T (mkF K.m pc L (.int j :: .ref a :: S)) := by
  obtain ⟨locs, X0, N, hz, eT⟩ := X; obtain ⟨hx, hZ, hby, -, hown, -⟩ := cx; obtain ⟨dd, rfl⟩ := hd
  obtain ⟨c, Ar, hc, hlen⟩ := A
  have hs : c.slots.size = xs.length := by have := congrArg List.length hc; simpa using this
  have hl : n < xs.length := (List.getElem?_eq_some_iff.mp hv).1
  have hn : n < 2 ^ 31 := by simp at hlen; omega
  subst hj
  have e1 := ofNat_clamp hn
  have hat : c.slots[(Int32.ofNat n).toNatClampNeg]? = some (.int v) := by
    rw [e1, ← Array.getElem?_toList, hc, List.getElem?_map, hv]; rfl
  exact Run.st (X0.saload hx (cell := c) (by rw [eT]; exact Ar.1) (State.isArrayOf_alike hZ.alike Ar.2.1) Ar.2.2 (by rw [e1, hs]; intro q; rcases q with q | q; exact ofNat_neg hn q; omega) hat (g := mkF K.m pc L (.int (Int32.ofNat n) :: .ref a :: S)) rfl rfl (hb hby dd)) k
theorem r_baload {xs : List Int32} {a : Addr} {j : Int32} {v : Int32} (X : Sd K T h cl sl) (cx : Cx K y bytes mx rt R) (hd : Dc bytes pc .baload 1 pc') (A : AI .byte K.Z h a xs) (n : Nat) (hj : j = Int32.ofNat n) (hv : xs[n]? = some v) (k : Run K Q T (mkF K.m pc' L (.int v :: S))) : Run K Q T (mkF K.m pc L (.int j :: .ref a :: S)) := by
  obtain ⟨locs, X0, N, hz, eT⟩ := X; obtain ⟨hx, hZ, hby, -, hown, -⟩ := cx; obtain ⟨dd, rfl⟩ := hd
  obtain ⟨c, Ar, hc, hlen⟩ := A
  have hs : c.slots.size = xs.length := by have := congrArg List.length hc; simpa using this
  have hl : n < xs.length := (List.getElem?_eq_some_iff.mp hv).1
  have hn : n < 2 ^ 31 := by simp at hlen; omega
  subst hj
  have e1 := ofNat_clamp hn
  have hat : c.slots[(Int32.ofNat n).toNatClampNeg]? = some (.int v) := by
    rw [e1, ← Array.getElem?_toList, hc, List.getElem?_map, hv]; rfl
  exact Run.st (X0.baloadBytes hx (cell := c) (by rw [eT]; exact Ar.1) (State.isArrayOf_alike hZ.alike Ar.2.1) Ar.2.2 (by rw [e1, hs]; intro q; rcases q with q | q; exact ofNat_neg hn q; omega) hat (g := mkF K.m pc L (.int (Int32.ofNat n) :: .ref a :: S)) rfl rfl (hb hby dd)) k
theorem r_laload {xs : List Int64} {a : Addr} {j : Int32} {v : Int64} (X : Sd K T h cl sl) (cx : Cx K y bytes mx rt R) (hd : Dc bytes pc .laload 1 pc') (A : AJ K.Z h a xs) (n : Nat) (hj : j = Int32.ofNat n) (hv : xs[n]? = some v) (k : Run K Q T (mkF K.m pc' L (.long v :: S))) : Run K Q T (mkF K.m pc L (.int j :: .ref a :: S)) := by
  obtain ⟨locs, X0, N, hz, eT⟩ := X; obtain ⟨hx, hZ, hby, -, hown, -⟩ := cx; obtain ⟨dd, rfl⟩ := hd
  obtain ⟨c, Ar, hc, hlen⟩ := A
  have hs : c.slots.size = xs.length := by have := congrArg List.length hc; simpa using this
  have hl : n < xs.length := (List.getElem?_eq_some_iff.mp hv).1
  have hn : n < 2 ^ 31 := by simp at hlen; omega
  subst hj
  have e1 := ofNat_clamp hn
  have hat : c.slots[(Int32.ofNat n).toNatClampNeg]? = some (.long v) := by
    rw [e1, ← Array.getElem?_toList, hc, List.getElem?_map, hv]; rfl
  exact Run.st (X0.laload hx (cell := c) (by rw [eT]; exact Ar.1) (State.isArrayOf_alike hZ.alike Ar.2.1) Ar.2.2 (by rw [e1, hs]; intro q; rcases q with q | q; exact ofNat_neg hn q; omega) hat (g := mkF K.m pc L (.int (Int32.ofNat n) :: .ref a :: S)) rfl rfl (hb hby dd)) k
theorem r_iastore {xs : List Int32} {a : Addr} {j : Int32} {x : Int32} (X : Sd K T h cl sl) (cx : Cx K y bytes mx rt R) (hd : Dc bytes pc .iastore 1 pc') (A : AI .int K.Z h a xs) (n : Nat) (hj : j = Int32.ofNat n) (hl : n < xs.length) (ge : K.n0 ≤ a) (k : ∀ T' h', Sd K T' h' cl sl → Wr h h' a n (.int x) → AI .int K.Z h' a (xs.set n x) → Run K Q T' (mkF K.m pc' L S)) : Run K Q T (mkF K.m pc L (.int x :: .int j :: .ref a :: S)) := by
  obtain ⟨locs, X0, N, hz, eT⟩ := X; obtain ⟨hx, hZ, hby, -, hown, -⟩ := cx; obtain ⟨dd, rfl⟩ := hd
  have A0 := A
  obtain ⟨c, Ar, hc, hlen⟩ := A
  have hs : c.slots.size = xs.length := by have := congrArg List.length hc; simpa using this
  have hn : n < 2 ^ 31 := by simp at hlen; omega
  subst hj
  have e1 := ofNat_clamp hn
  obtain ⟨T1, h1, X1, eh1, W1, st1⟩ := stI X0 hx hZ eT Ar (j := Int32.ofNat n) (x := x) (by rw [e1, hs]; intro q; rcases q with q | q; exact ofNat_neg hn q; omega) (g := mkF K.m pc L (.int x :: .int (Int32.ofNat n) :: .ref a :: S)) rfl rfl (hb hby dd)
  have hz1 : K.n0 ≤ h1.size := by rw [W1.size]; exact hz
  have N1 := Fr.snoc X1 N ge
  rw [e1] at W1
  exact Run.st st1 (k T1 h1 ⟨_, X1, N1, hz1, eh1⟩ W1 (AI.set A0 W1))
theorem r_sastore {xs : List Int32} {a : Addr} {j : Int32} {x : Int32} (X : Sd K T h cl sl) (cx : Cx K y bytes mx rt R) (hd : Dc bytes pc .sastore 1 pc') (A : AI .short K.Z h a xs) (n : Nat) (hj : j = Int32.ofNat n) (hl : n < xs.length) (ge : K.n0 ≤ a) (k : ∀ T' h', Sd K T' h' cl sl → Wr h h' a n (.int (nar .short x)) → AI .short K.Z h' a (xs.set n (nar .short x)) → Run K Q T' (mkF K.m pc' L S)) : Run K Q T (mkF K.m pc L (.int x :: .int j :: .ref a :: S)) := by
  obtain ⟨locs, X0, N, hz, eT⟩ := X; obtain ⟨hx, hZ, hby, -, hown, -⟩ := cx; obtain ⟨dd, rfl⟩ := hd
  have A0 := A
  obtain ⟨c, Ar, hc, hlen⟩ := A
  have hs : c.slots.size = xs.length := by have := congrArg List.length hc; simpa using this
  have hn : n < 2 ^ 31 := by simp at hlen; omega
  subst hj
  have e1 := ofNat_clamp hn
  obtain ⟨T1, h1, X1, eh1, W1, st1⟩ := stS X0 hx hZ eT Ar (j := Int32.ofNat n) (x := x) (by rw [e1, hs]; intro q; rcases q with q | q; exact ofNat_neg hn q; omega) (g := mkF K.m pc L (.int x :: .int (Int32.ofNat n) :: .ref a :: S)) rfl rfl (hb hby dd)
  have hz1 : K.n0 ≤ h1.size := by rw [W1.size]; exact hz
  have N1 := Fr.snoc X1 N ge
  rw [e1] at W1
  exact Run.st st1 (k T1 h1 ⟨_, X1, N1, hz1, eh1⟩ W1 (AI.set A0 W1))
theorem r_bastore {xs : List Int32} {a : Addr} {j : Int32} {x : Int32} (X : Sd K T h cl sl) (cx : Cx K y bytes mx rt R) (hd : Dc bytes pc .bastore 1 pc') (A : AI .byte K.Z h a xs) (n : Nat) (hj : j = Int32.ofNat n) (hl : n < xs.length) (ge : K.n0 ≤ a) (k : ∀ T' h', Sd K T' h' cl sl → Wr h h' a n (.int (nar .byte x)) → AI .byte K.Z h' a (xs.set n (nar .byte x)) → Run K Q T' (mkF K.m pc' L S)) : Run K Q T (mkF K.m pc L (.int x :: .int j :: .ref a :: S)) := by
  obtain ⟨locs, X0, N, hz, eT⟩ := X; obtain ⟨hx, hZ, hby, -, hown, -⟩ := cx; obtain ⟨dd, rfl⟩ := hd
  have A0 := A
  obtain ⟨c, Ar, hc, hlen⟩ := A
  have hs : c.slots.size = xs.length := by have := congrArg List.length hc; simpa using this
  have hn : n < 2 ^ 31 := by simp at hlen; omega
  subst hj
  have e1 := ofNat_clamp hn
  obtain ⟨T1, h1, X1, eh1, W1, st1⟩ := stB X0 hx hZ eT Ar (j := Int32.ofNat n) (x := x) (by rw [e1, hs]; intro q; rcases q with q | q; exact ofNat_neg hn q; omega) (g := mkF K.m pc L (.int x :: .int (Int32.ofNat n) :: .ref a :: S)) rfl rfl (hb hby dd)
  have hz1 : K.n0 ≤ h1.size := by rw [W1.size]; exact hz
  have N1 := Fr.snoc X1 N ge
  rw [e1] at W1
  exact Run.st st1 (k T1 h1 ⟨_, X1, N1, hz1, eh1⟩ W1 (AI.set A0 W1))
theorem r_lastore {xs : List Int64} {a : Addr} {j : Int32} {x : Int64} (X : Sd K T h cl sl) (cx : Cx K y bytes mx rt R) (hd : Dc bytes pc .lastore 1 pc') (A : AJ K.Z h a xs) (n : Nat) (hj : j = Int32.ofNat n) (hl : n < xs.length) (ge : K.n0 ≤ a) (k : ∀ T' h', Sd K T' h' cl sl → Wr h h' a n (.long x) → AJ K.Z h' a (xs.set n x) → Run K Q T' (mkF K.m pc' L S)) : Run K Q T (mkF K.m pc L (.long x :: .int j :: .ref a :: S)) := by
  obtain ⟨locs, X0, N, hz, eT⟩ := X; obtain ⟨hx, hZ, hby, -, hown, -⟩ := cx; obtain ⟨dd, rfl⟩ := hd
  have A0 := A
  obtain ⟨c, Ar, hc, hlen⟩ := A
  have hs : c.slots.size = xs.length := by have := congrArg List.length hc; simpa using this
  have hn : n < 2 ^ 31 := by simp at hlen; omega
  subst hj
  have e1 := ofNat_clamp hn
  obtain ⟨T1, h1, X1, eh1, W1, st1⟩ := stJ X0 hx hZ eT Ar (j := Int32.ofNat n) (x := x) (by rw [e1, hs]; intro q; rcases q with q | q; exact ofNat_neg hn q; omega) (g := mkF K.m pc L (.long x :: .int (Int32.ofNat n) :: .ref a :: S)) rfl rfl (hb hby dd)
  have hz1 : K.n0 ≤ h1.size := by rw [W1.size]; exact hz
  have N1 := Fr.snoc X1 N ge
  rw [e1] at W1
  exact Run.st st1 (k T1 h1 ⟨_, X1, N1, hz1, eh1⟩ W1 (AJ.set A0 W1))
theorem r_newarray {aty : ArrayType} {a0 : Array Value} {z : Int32} (X : Sd K T h cl sl) (cx : Cx K y bytes mx rt R) (hd : Dc bytes pc (.newarray aty) 2 pc') (w : (Cond.arrayClass (newarray.typeOf aty)).before a0 K.Z = true) (n cap : Nat) (hj : z = Int32.ofNat n) (hcap : n ≤ cap) (hb8 : cap * 8 ≤ 536870912) (hc : cl + 1 ≤ R.cells) (hs : sl + cap ≤ R.slots)
    (k : ∀ T' h' a, a = h.size → K.n0 ≤ a → Sd K T' h' (cl + 1) (sl + cap) → Ext h h' → AV K.Z h' a (newarray.typeOf aty) (List.replicate n (defaultValue (newarray.typeOf aty))) → Run K Q T' (mkF K.m pc' L (.ref a :: S))) : Run K Q T (mkF K.m pc L (.int z :: S)) := by
  obtain ⟨locs, X0, N, hz, eT⟩ := X; obtain ⟨hx, hZ, hby, -, hown, -, -, hR, -⟩ := cx; obtain ⟨dd, rfl⟩ := hd
  have hn : n < 2 ^ 31 := by omega
  subst hj
  have e1 := ofNat_clamp hn
  obtain ⟨T1, h1, cA, X1, eh1, E1, A1, st1⟩ := newP X0 hx hZ w eT (g := mkF K.m pc L (.int (Int32.ofNat n) :: S)) rfl (hb hby dd) (n := Int32.ofNat n) rfl (ofNat_neg hn) (cap := cap) (by rw [e1]; exact hcap) hb8 (by rw [hR]; exact hc) (by rw [hR]; exact hs)
  refine Run.st st1 (k T1 h1 h.size rfl hz ⟨locs, X1, N, Nat.le_trans hz E1.1, eh1⟩ E1 ⟨_, A1, ?_, by simpa using hn⟩)
  simp [newA, e1]
theorem AI.new {ty : FieldType} {Z : State} {h : Heap} {a : Addr} {n : Nat} (A : AV Z h a ty (List.replicate n (.int 0))) : AI ty Z h a (List.replicate n 0) := by
  show AV Z h a ty _
  rw [List.map_replicate]; exact A
theorem AJ.new {Z : State} {h : Heap} {a : Addr} {n : Nat} (A : AV Z h a .long (List.replicate n (.long 0))) : AJ Z h a (List.replicate n 0) := by
  show AV Z h a .long _
  rw [List.map_replicate]; exact A
end Rules
/-! contracts and calls -/
def Con (l : Launch) (Z : State) (y : MethodName) (bytes : ByteArray) (mx : Nat) (rt : Option FieldType) (rm : Room) (as : Array Value) (h0 : Heap) (n0 : Nat) (Q : Option Value → Heap → Prop) : Prop :=
  ∀ ws, MetFree l y (head1 (Jvm.Cond.code y bytes mx rt :: ws) rm) (fun a U => a = as ∧ Z.Warmed39 U.vm ∧ U.heap = h0) (fun _ _ _ _ _ => True) (fun _ U o U' => ∃ v L, o = .returned v ∧ (Q v U'.heap ∧ Fr n0 L) ∧ FrameEnd U o U' L rm.cells rm.slots)
theorem Con.of {l : Launch} {Z : State} {y : MethodName} {bytes : ByteArray} {mx : Nat} {rt : Option FieldType} {rm : Room} {as : Array Value} {h0 : Heap} {n0 : Nat} {Q : Option Value → Heap → Prop} (hy : plainFor y = true) (Z0 : n0 ≤ h0.size)
    (body : ∀ K : KT, K.l = l → K.Z = Z → K.n0 = n0 → Cx K y bytes mx rt rm → ∀ T, Sd K T h0 0 0 → Run K Q T (entryFrame K.m as mx)) : Con l Z y bytes mx rt rm as h0 n0 Q := by
  intro ws
  refine MetFree.of_bodySF hy hisR ?_
  intro p e s m args below meth c s₁ Bd hml0 hP hK
  obtain ⟨rfl, hZ, hh⟩ := hP
  have hown : s.vm.findClass y.cls = some m.cls := findClass_of_methodNamed Bd.named
  have hnm := (name_of_methodNamed Bd.named Bd.method).1
  have X0 : Stand p l e rm s m args below meth c s₁ [] 0 0 := Stand.of_body Bd
  have e0 : s₁.heap = h0 := by rw [← hh, Bd.state]; rfl
  obtain ⟨s₂, v, L, h1, h2, h3, h4, h5, h6⟩ := body (p, l, e, rm, s, m, args, below, meth, c, Z, n0) rfl rfl rfl ⟨Bd.exec, hZ, Bd.bytes, hml0, hown, Bd.returns, Bd.notSynchronized, rfl, hnm⟩ s₁ ⟨[], X0, Fr.nil n0, Z0, e0⟩
  exact ⟨s₂, _, h1, h2, h3, v, L, rfl, ⟨h4, h5⟩, h6⟩
section Calls
variable {K : KT} {Q : Option Value → Heap → Prop} {T : State} {h : Heap} {cl sl : Nat} {y : MethodName} {bytes : ByteArray} {mx : Nat} {rt : Option FieldType} {R : Room} {pc pc' pt : Nat} {L : Array Slot}
theorem r_static {z : MethodName} {zb : ByteArray} {zm : Nat} {zr : Option FieldType} {rm : Room} {i : Nat} {a0 : Array Value} {Qz : Option Value → Heap → Prop} {St : List Value} (argsL rest : List Value) (X : Sd K T h cl sl) (cx : Cx K y bytes mx rt R) (hd : Dc bytes pc (.invokestatic i) 3 pc')
    (w1 : (Cond.methodLink y.cls i z).before a0 K.Z = true) (w2 : (Cond.static z).before a0 K.Z = true) (w3 : (Cond.initialized z.cls).before a0 K.Z = true) (w4 : (Cond.code z zb zm zr).before a0 K.Z = true) (hm : z.cls ≠ "java/lang/invoke/MethodHandle" ∧ z.cls ≠ "java/lang/invoke/VarHandle")
    (con : Con K.l K.Z z zb zm zr rm argsL.toArray h K.n0 Qz) (hpd : ∀ sig, parseMethodDescriptor z.desc = some sig → argsL.length = sig.parameters.length) (hSt : St = argsL.reverse ++ rest) (hsz : L.size = mx) (hf : rm.frames + 1 ≤ R.frames) (hl : (rest.map fun v => v.category).sum + (zm + 11) + rm.locals ≤ R.locals) (hc : cl + rm.cells ≤ R.cells) (hs : sl + rm.slots ≤ R.slots)
    (k : ∀ T' h' v, Sd K T' h' (cl + rm.cells) (sl + rm.slots) → Qz v h' → Run K Q T' (mkF K.m pc' L (v.toList ++ rest))) (hmono : ∀ v h', Qz v h' → h.size ≤ h'.size) : Run K Q T (mkF K.m pc L St) := by
  obtain ⟨locs, X0, N, hz, eT⟩ := X; obtain ⟨hx, hZ, hby, hml, hown, -, -, hR, -⟩ := cx; obtain ⟨dd, rfl⟩ := hd
  obtain ⟨v, _, ⟨T1, L1, k1, n1⟩, -, X1, ⟨Lc, ⟨hQ, hF⟩, l1, y1, z1⟩, st1⟩ := Jvm.LawKit.callS X0 hx (y := z) hown (mvT hZ w1) (mvT hZ w2) (mvT hZ w3) (mvT hZ w4) hm (backOf (W := (rest.map fun v => v.category).sum) (Q := fun v h L => Qz v h ∧ Fr K.n0 L) (con []) hZ w4 w3 (by rw [hR]; exact hf) (by rw [hR]; exact hl)) (g := mkF K.m pc L St) rfl (by rw [hml]; exact hsz) (argsL := argsL) (rest := rest) hpd hSt (by show 2 * 0 + _ ≤ _; omega) (hb hby dd) (fun _ _ => ⟨rfl, eT, by rw [hR]; exact hc, by rw [hR]; exact hs⟩)
  dsimp only [Pt.U, Pt.locs, Pt.cells, Pt.slots] at X1 l1 y1 z1 st1 hQ
  subst l1 y1 z1
  exact Run.st st1 (k T1 _ v ⟨_, X1, Fr.app N hF, Nat.le_trans hz (hmono _ _ hQ), rfl⟩ hQ)
theorem r_virtual {z : MethodName} {C : String} {zb : ByteArray} {zm : Nat} {zr : Option FieldType} {rm : Room} {i : Nat} {a : Addr} {a0 : Array Value} {Qz : Option Value → Heap → Prop} {St : List Value} (argsL rest : List Value) (X : Sd K T h cl sl) (cx : Cx K y bytes mx rt R) (hd : Dc bytes pc (.invokevirtual i) 3 pc') (E : Exa K.Z h a C)
    (w1 : (Cond.methodLink y.cls i z).before a0 K.Z = true) (w2 : (Cond.declares z).before a0 K.Z = true) (w3 : (Cond.selects C z z).before a0 K.Z = true) (w4 : (Cond.instanceMethod z).before a0 K.Z = true) (w5 : (Cond.initialized z.cls).before a0 K.Z = true) (w6 : (Cond.code z zb zm zr).before a0 K.Z = true) (hm : z.cls ≠ "java/lang/invoke/MethodHandle" ∧ z.cls ≠ "java/lang/invoke/VarHandle")
    (con : Con K.l K.Z z zb zm zr rm (.ref a :: argsL).toArray h K.n0 Qz) (hpd : ∀ sig, parseMethodDescriptor z.desc = some sig → argsL.length = sig.parameters.length) (hSt : St = argsL.reverse ++ .ref a :: rest) (hsz : L.size = mx) (hf : rm.frames + 1 ≤ R.frames) (hl : (rest.map fun v => v.category).sum + (zm + 11) + rm.locals ≤ R.locals) (hc : cl + rm.cells ≤ R.cells) (hs : sl + rm.slots ≤ R.slots)
    (k : ∀ T' h' v, Sd K T' h' (cl + rm.cells) (sl + rm.slots) → Qz v h' → Run K Q T' (mkF K.m pc' L (v.toList ++ rest))) (hmono : ∀ v h', Qz v h' → h.size ≤ h'.size) : Run K Q T (mkF K.m pc L St) := by
  obtain ⟨locs, X0, N, hz, eT⟩ := X; obtain ⟨hx, hZ, hby, hml, hown, -, -, hR, -⟩ := cx; obtain ⟨dd, rfl⟩ := hd
  obtain ⟨cq, kq, qa, qb, qc⟩ := isOf hZ eT E
  obtain ⟨v, _, ⟨T1, L1, k1, n1⟩, -, X1, ⟨Lc, ⟨hQ, hF⟩, l1, y1, z1⟩, st1⟩ := X0.virtualBack hx (y := z) (z := z) hown (mvT hZ w1) (mvT hZ w2) (notFace_of_selects (args := #[]) (mvT hZ w3)) (mvT hZ w3) (mvT hZ w4) hm (backOf (W := (rest.map fun v => v.category).sum) (Q := fun v h L => Qz v h ∧ Fr K.n0 L) (con []) hZ w6 w5 (by rw [hR]; exact hf) (by rw [hR]; exact hl)) qa qc (g := mkF K.m pc L St) rfl (by rw [hml]; exact hsz) (Steps.refl _) (argsL := argsL) (rest := rest) hpd hSt (by show 2 * 0 + _ ≤ _; omega) (hb hby dd) (fun _ _ => ⟨rfl, eT, by rw [hR]; exact hc, by rw [hR]; exact hs⟩)
  dsimp only [Pt.U, Pt.locs, Pt.cells, Pt.slots] at X1 l1 y1 z1 st1 hQ
  subst l1 y1 z1
  exact Run.st (fun t q => st1.trans q) (k T1 _ v ⟨_, X1, Fr.app N hF, Nat.le_trans hz (hmono _ _ hQ), rfl⟩ hQ)
theorem r_private {z z' : MethodName} {C C' : String} {zb : ByteArray} {zm : Nat} {zr : Option FieldType} {rm : Room} {i : Nat} {a : Addr} {a0 : Array Value} {Qz : Option Value → Heap → Prop} {St : List Value} (argsL rest : List Value) (X : Sd K T h cl sl) (cx : Cx K y bytes mx rt R) (hd : Dc bytes pc (.invokevirtual i) 3 pc') (E : Exa K.Z h a C)
    (w1 : (Cond.methodLink y.cls i z).before a0 K.Z = true) (w2 : (Cond.selects C' z' z').before a0 K.Z = true) (w3 : (Cond.instanceMethod z).before a0 K.Z = true) (w4 : (Cond.privateMethod z).before a0 K.Z = true) (w5 : (Cond.initialized z.cls).before a0 K.Z = true) (w6 : (Cond.code z zb zm zr).before a0 K.Z = true) (hzz : z'.cls = z.cls) (hm : z.cls ≠ "java/lang/invoke/MethodHandle" ∧ z.cls ≠ "java/lang/invoke/VarHandle")
    (con : Con K.l K.Z z zb zm zr rm (.ref a :: argsL).toArray h K.n0 Qz) (hpd : ∀ sig, parseMethodDescriptor z.desc = some sig → argsL.length = sig.parameters.length) (hSt : St = argsL.reverse ++ .ref a :: rest) (hsz : L.size = mx) (hf : rm.frames + 1 ≤ R.frames) (hl : (rest.map fun v => v.category).sum + (zm + 11) + rm.locals ≤ R.locals) (hc : cl + rm.cells ≤ R.cells) (hs : sl + rm.slots ≤ R.slots)
    (k : ∀ T' h' v, Sd K T' h' (cl + rm.cells) (sl + rm.slots) → Qz v h' → Run K Q T' (mkF K.m pc' L (v.toList ++ rest))) (hmono : ∀ v h', Qz v h' → h.size ≤ h'.size) : Run K Q T (mkF K.m pc L St) := by
  obtain ⟨locs, X0, N, hz, eT⟩ := X; obtain ⟨hx, hZ, hby, hml, hown, -, -, hR, -⟩ := cx; obtain ⟨dd, rfl⟩ := hd
  obtain ⟨cq, qa, qb⟩ := E.cell
  have u2 : (Cond.selects C' z' z').before K.args K.s = true := mvT hZ w2
  have u3 : (Cond.instanceMethod z).before K.args K.s = true := mvT hZ w3
  obtain ⟨c2, r2, m2, q1, q2, q3, q4, kP, hkP, hkPi⟩ := Cond.selects_spec u2
  have hc2 := findClass_of_methodNamed q3
  rw [hzz] at hc2
  have hpriv := Cond.privateMethod_at (mvP hZ w4 (args := K.args))
  have hsel := selects_self_of_private hc2 hkP hkPi hpriv u3 hm
  obtain ⟨v, _, ⟨T1, L1, k1, n1⟩, -, X1, ⟨Lc, ⟨hQ, hF⟩, l1, y1, z1⟩, st1⟩ := X0.privateBack hx (y := z) hown (mvT hZ w1) u3 hsel hpriv (mvT hZ w6) hm (backOf (W := (rest.map fun v => v.category).sum) (Q := fun v h L => Qz v h ∧ Fr K.n0 L) (con []) hZ w6 w5 (by rw [hR]; exact hf) (by rw [hR]; exact hl)) (g := mkF K.m pc L St) rfl (by rw [hml]; exact hsz) (Steps.refl _) (a := a) (by rw [eT]; exact qa) qb (argsL := argsL) (rest := rest) hpd hSt (by show 2 * 0 + _ ≤ _; omega) (hb hby dd) (fun _ _ => ⟨rfl, eT, by rw [hR]; exact hc, by rw [hR]; exact hs⟩)
  dsimp only [Pt.U, Pt.locs, Pt.cells, Pt.slots] at X1 l1 y1 z1 st1 hQ
  subst l1 y1 z1
  exact Run.st (fun t q => st1.trans q) (k T1 _ v ⟨_, X1, Fr.app N hF, Nat.le_trans hz (hmono _ _ hQ), rfl⟩ hQ)
theorem r_special {z : MethodName} {zb : ByteArray} {zm : Nat} {rm : Room} {i : Nat} {a : Addr} {a0 : Array Value} {Qz : Option Value → Heap → Prop} {St : List Value} (argsL rest : List Value) (X : Sd K T h cl sl) (cx : Cx K y bytes mx rt R) (hd : Dc bytes pc (.invokespecial i) 3 pc') (hzn : z.name = "<init>")
    (w1 : (Cond.methodLink y.cls i z).before a0 K.Z = true) (w2 : (Cond.instanceMethod z).before a0 K.Z = true) (w3 : (Cond.initialized z.cls).before a0 K.Z = true) (w4 : (Cond.code z zb zm none).before a0 K.Z = true) (hm : z.cls ≠ "java/lang/invoke/MethodHandle" ∧ z.cls ≠ "java/lang/invoke/VarHandle")
    (con : Con K.l K.Z z zb zm none rm (.ref a :: argsL).toArray h K.n0 Qz) (hpd : ∀ sig, parseMethodDescriptor z.desc = some sig → argsL.length = sig.parameters.length) (hSt : St = argsL.reverse ++ .ref a :: rest) (hsz : L.size = mx) (hf : rm.frames + 1 ≤ R.frames) (hl : (rest.map fun v => v.category).sum + (zm + 11) + rm.locals ≤ R.locals) (hc : cl + rm.cells ≤ R.cells) (hs : sl + rm.slots ≤ R.slots)
    (k : ∀ T' h' v, Sd K T' h' (cl + rm.cells) (sl + rm.slots) → Qz v h' → Run K Q T' (mkF K.m pc' L (v.toList ++ rest))) (hmono : ∀ v h', Qz v h' → h.size ≤ h'.size) : Run K Q T (mkF K.m pc L St) := by
  obtain ⟨locs, X0, N, hz, eT⟩ := X; obtain ⟨hx, hZ, hby, hml, hown, -, -, hR, -⟩ := cx; obtain ⟨dd, rfl⟩ := hd
  obtain ⟨v, _, ⟨T1, L1, k1, n1⟩, -, X1, ⟨Lc, ⟨hQ, hF⟩, l1, y1, z1⟩, st1⟩ := X0.specialBack hx (y := z) hzn hown (mvT hZ w1) (mvT hZ w2) (mvT hZ w4) hm (backOf (W := (rest.map fun v => v.category).sum) (Q := fun v h L => Qz v h ∧ Fr K.n0 L) (con []) hZ w4 w3 (by rw [hR]; exact hf) (by rw [hR]; exact hl)) (g := mkF K.m pc L St) rfl (by rw [hml]; exact hsz) (Steps.refl _) (a := a) (argsL := argsL) (rest := rest) hpd hSt (by show 2 * 0 + _ ≤ _; omega) (hb hby dd) (fun _ _ => ⟨rfl, eT, by rw [hR]; exact hc, by rw [hR]; exact hs⟩)
  dsimp only [Pt.U, Pt.locs, Pt.cells, Pt.slots] at X1 l1 y1 z1 st1 hQ
  subst l1 y1 z1
  exact Run.st (fun t q => st1.trans q) (k T1 _ v ⟨_, X1, Fr.app N hF, Nat.le_trans hz (hmono _ _ hQ), rfl⟩ hQ)
end Calls
end Jvm.Own
namespace Jvm.Pilot.@@N@@
open Jvm Jvm.ClassFile Sem Op Lib Jvm.Free Jvm.Stand Jvm.LawKit Jvm.RoadKit Bundle Jvm.Own Jvm.Pilot.@@N@@.Jvm.D
theorem pd_0 : parseMethodDescriptor "([I[I)Z" = some ⟨[.array .int, .array .int], some (.boolean)⟩ := by decide +kernel
theorem own_or0 (a b : Int32) : a ||| b = 0 ↔ a = 0 ∧ b = 0 := by
  rw [← Int32.toBitVec_inj, ← Int32.toBitVec_inj, ← Int32.toBitVec_inj, Int32.toBitVec_or]
  exact BitVec.or_eq_zero_iff
theorem own_xor0 (a b : Int32) : a ^^^ b = 0 ↔ a = b := by
  rw [← Int32.toBitVec_inj, ← Int32.toBitVec_inj, Int32.toBitVec_xor]
  exact BitVec.xor_eq_zero_iff
theorem own_xors (a d : Int32) : a = a ^^^ d ↔ d = 0 := by
  rw [← own_xor0, ← Int32.xor_assoc, Int32.xor_self, Int32.zero_xor]
theorem own_m7n (x : Int32) : ∃ n : Nat, n < 8 ∧ x &&& 7 = Int32.ofNat n := by
  refine ⟨(x &&& 7).toBitVec.toNat, ?_, ?_⟩
  · simp only [Int32.toBitVec_and, BitVec.toNat_and]
    exact Nat.lt_of_le_of_lt Nat.and_le_right (by decide)
  · apply Int32.toBitVec_inj.mp
    show _ = BitVec.ofNat 32 _
    rw [BitVec.ofNat_toNat]; simp
theorem own_inj {a b : Nat} (ha : a < 8) (hb : b < 8) : Int32.ofNat a = Int32.ofNat b ↔ a = b := by
  rw [← Int32.toInt_inj, Int32.toInt_ofNat_of_lt (by omega), Int32.toInt_ofNat_of_lt (by omega)]
  omega
theorem own_gd {xs : List Int32} {n : Nat} (h : n < xs.length) : xs[n]? = some (xs[n]?.getD 0) := by
  rw [List.getElem?_eq_getElem h]; rfl
theorem own_set1 {xs : List Int32} {n : Nat} {v : Int32} (h : n < xs.length) : xs = xs.set n v ↔ xs[n]?.getD 0 = v := by
  constructor
  · intro e
    have := congrArg (fun l => l[n]?.getD 0) e
    simp only [List.getElem?_set_self h] at this
    exact this
  · intro e
    apply List.ext_getElem?
    intro k
    by_cases q : n = k
    · subst q; rw [List.getElem?_set_self h, ← e]; exact own_gd h
    · rw [List.getElem?_set_ne q]
def own_l2 (xs : List Int32) (n m : Nat) (d e : Int32) : List Int32 := (xs.set n (xs[n]?.getD 0 ^^^ d)).set m ((xs.set n (xs[n]?.getD 0 ^^^ d))[m]?.getD 0 ^^^ e)
theorem own_same {xs : List Int32} {n : Nat} {d e : Int32} (h : n < xs.length) : xs = own_l2 xs n n d e ↔ d ^^^ e = 0 := by
  unfold own_l2
  rw [List.set_set, List.getElem?_set_self h, own_set1 h]
  simp only [Option.getD_some]
  rw [Int32.xor_assoc, own_xors]
theorem own_diff {xs : List Int32} {n m : Nat} {d e : Int32} (hne : ¬ n = m) (h : n < xs.length) (h2 : m < xs.length) : xs = own_l2 xs n m d e ↔ d = 0 ∧ e = 0 := by
  unfold own_l2
  rw [List.getElem?_set_ne hne]
  constructor
  · intro q
    have q1 := congrArg (fun l => l[n]?.getD 0) q
    have q2 := congrArg (fun l => l[m]?.getD 0) q
    simp only [List.getElem?_set_ne (Ne.symm hne), List.getElem?_set_self h, Option.getD_some] at q1
    rw [List.getElem?_set_self (by simpa using h2)] at q2
    simp only [Option.getD_some] at q2
    exact ⟨(own_xors _ _).mp q1, (own_xors _ _).mp q2⟩
  · rintro ⟨rfl, rfl⟩
    rw [Int32.xor_zero, Int32.xor_zero, ← (own_set1 h).mpr rfl, ← (own_set1 h2).mpr rfl]
theorem P57m5_0 : Dc prog_57_method_5_code 0 (.iconst 0) 1 1 := ⟨(by decide +kernel), rfl⟩
theorem P57m5_1 : Dc prog_57_method_5_code 1 (.istore_n 2) 1 2 := ⟨(by decide +kernel), rfl⟩
theorem P57m5_2 : Dc prog_57_method_5_code 2 (.iconst 0) 1 3 := ⟨(by decide +kernel), rfl⟩
theorem P57m5_3 : Dc prog_57_method_5_code 3 (.istore_n 3) 1 4 := ⟨(by decide +kernel), rfl⟩
theorem P57m5_4 : Dc prog_57_method_5_code 4 (.iload_n 3) 1 5 := ⟨(by decide +kernel), rfl⟩
theorem P57m5_5 : Dc prog_57_method_5_code 5 (.bipush 8) 2 7 := ⟨(by decide +kernel), rfl⟩
theorem P57m5_7 : Db prog_57_method_5_code 7 (.if_icmp .ge 19) (19) 10 26 := ⟨(by decide +kernel), rfl, by decide, by decide⟩
theorem P57m5_10 : Dc prog_57_method_5_code 10 (.iload_n 2) 1 11 := ⟨(by decide +kernel), rfl⟩
theorem P57m5_11 : Dc prog_57_method_5_code 11 (.aload_n 0) 1 12 := ⟨(by decide +kernel), rfl⟩
theorem P57m5_12 : Dc prog_57_method_5_code 12 (.iload_n 3) 1 13 := ⟨(by decide +kernel), rfl⟩
theorem P57m5_13 : Dc prog_57_method_5_code 13 (.iaload) 1 14 := ⟨(by decide +kernel), rfl⟩
theorem P57m5_14 : Dc prog_57_method_5_code 14 (.aload_n 1) 1 15 := ⟨(by decide +kernel), rfl⟩
theorem P57m5_15 : Dc prog_57_method_5_code 15 (.iload_n 3) 1 16 := ⟨(by decide +kernel), rfl⟩
theorem P57m5_16 : Dc prog_57_method_5_code 16 (.iaload) 1 17 := ⟨(by decide +kernel), rfl⟩
theorem P57m5_17 : Dc prog_57_method_5_code 17 (.ixor) 1 18 := ⟨(by decide +kernel), rfl⟩
theorem P57m5_18 : Dc prog_57_method_5_code 18 (.ior) 1 19 := ⟨(by decide +kernel), rfl⟩
theorem P57m5_19 : Dc prog_57_method_5_code 19 (.istore_n 2) 1 20 := ⟨(by decide +kernel), rfl⟩
theorem P57m5_20 : Dc prog_57_method_5_code 20 (.iinc 3 1) 3 23 := ⟨(by decide +kernel), rfl⟩
theorem P57m5_23 : Db prog_57_method_5_code 23 (.goto (-19)) (-19) 26 4 := ⟨(by decide +kernel), rfl, by decide, by decide⟩
theorem P57m5_26 : Dc prog_57_method_5_code 26 (.iload_n 2) 1 27 := ⟨(by decide +kernel), rfl⟩
theorem P57m5_27 : Db prog_57_method_5_code 27 (.ifCond .ne 7) (7) 30 34 := ⟨(by decide +kernel), rfl, by decide, by decide⟩
theorem P57m5_30 : Dc prog_57_method_5_code 30 (.iconst 1) 1 31 := ⟨(by decide +kernel), rfl⟩
theorem P57m5_31 : Db prog_57_method_5_code 31 (.goto 4) (4) 34 35 := ⟨(by decide +kernel), rfl, by decide, by decide⟩
theorem P57m5_34 : Dc prog_57_method_5_code 34 (.iconst 0) 1 35 := ⟨(by decide +kernel), rfl⟩
theorem P57m5_35 : Dc prog_57_method_5_code 35 (.ireturn) 1 36 := ⟨(by decide +kernel), rfl⟩
theorem ef_P57m5 (m : MethodId) (p : Addr) (q : Addr) : entryFrame m #[(.ref p), (.ref q)] 4 = mkF m 0 #[.val (.ref p), .val (.ref q), .unset, .unset] [] := by first | (simp [entryFrame, mkF, argsToLocals, Value.category]; done) | rfl
set_option maxRecDepth 65536 in
set_option maxHeartbeats 40000000 in
theorem con_P57m5 (l : Launch) (Z : State) (a0 : Array Value) (hw : Tb tables_1 a0 Z) (p : Addr) (q : Addr) (h0 : Heap) (n0 : Nat) (Z0 : n0 ≤ h0.size) (as bs : List Int32) (hla : as.length = 8) (hlb : bs.length = 8) (A_p : AI .int Z h0 p as) (A_q : AI .int Z h0 q bs) :
    Con l Z site_224 prog_57_method_5_code 4 (some (.boolean)) ({ frames := 0, cells := 0, slots := 0, locals := 0 } : Room) #[(.ref p), (.ref q)] h0 n0 (fun v h => h0 = h ∧ v = some (.int (if as = bs then 1 else 0))) := by
  refine Con.of (plainFor_of_name (by decide +kernel)) Z0 ?_
  intro K hl hZ hn cx T0 X0
  subst hl hZ hn
  refine Run.cast (ef_P57m5 K.m p q) ?_
  match as, bs, hla, hlb, A_p, A_q with
  | [x0, x1, x2, x3, x4, x5, x6, x7], [y0, y1, y2, y3, y4, y5, y6, y7], _, _, A_p, A_q =>
    refine r_iconst (0) X0 cx P57m5_0 rfl ?_
    refine r_istoreN (fun zz => #[.val (.ref p), .val (.ref q), .val (.int zz), .unset]) X0 cx P57m5_1 (fun _ => rfl) (fun i1 e_i1 => ?_)
    subst e_i1
    refine r_iconst (0) X0 cx P57m5_2 rfl ?_
    refine r_istoreN (fun zz => #[.val (.ref p), .val (.ref q), .val (.int (0 : Int32)), .val (.int zz)]) X0 cx P57m5_3 (fun _ => rfl) (fun i2 e_i2 => ?_)
    subst e_i2
    refine r_iloadN X0 cx P57m5_4 rfl ?_
    refine r_bipush (8) X0 cx P57m5_5 rfl ?_
    refine r_icmpge X0 cx P57m5_7 (fun c => absurd c (by decide)) (fun _ => ?_)
    refine r_iloadN X0 cx P57m5_10 rfl ?_
    refine r_aloadN X0 cx P57m5_11 rfl ?_
    refine r_iloadN X0 cx P57m5_12 rfl ?_
    refine r_iaload X0 cx P57m5_13 A_p (0) rfl (v := x0) rfl ?_
    refine r_aloadN X0 cx P57m5_14 rfl ?_
    refine r_iloadN X0 cx P57m5_15 rfl ?_
    refine r_iaload X0 cx P57m5_16 A_q (0) rfl (v := y0) rfl ?_
    refine r_ixor X0 cx P57m5_17 ?_
    refine r_ior X0 cx P57m5_18 ?_
    refine r_istoreN (fun zz => #[.val (.ref p), .val (.ref q), .val (.int zz), .val (.int (0 : Int32))]) X0 cx P57m5_19 (fun _ => rfl) (fun i3 e_i3 => ?_)
    refine r_iinc (1 : Int32) (fun zz => #[.val (.ref p), .val (.ref q), .val (.int i3), .val (.int zz)]) X0 cx P57m5_20 rfl rfl (fun _ => rfl) (fun i4 e_i4 => ?_)
    obtain rfl : i4 = (1 : Int32) := e_i4
    refine r_goto X0 cx P57m5_23 ?_
    refine r_iloadN X0 cx P57m5_4 rfl ?_
    refine r_bipush (8) X0 cx P57m5_5 rfl ?_
    refine r_icmpge X0 cx P57m5_7 (fun c => absurd c (by decide)) (fun _ => ?_)
    refine r_iloadN X0 cx P57m5_10 rfl ?_
    refine r_aloadN X0 cx P57m5_11 rfl ?_
    refine r_iloadN X0 cx P57m5_12 rfl ?_
    refine r_iaload X0 cx P57m5_13 A_p (1) rfl (v := x1) rfl ?_
    refine r_aloadN X0 cx P57m5_14 rfl ?_
    refine r_iloadN X0 cx P57m5_15 rfl ?_
    refine r_iaload X0 cx P57m5_16 A_q (1) rfl (v := y1) rfl ?_
    refine r_ixor X0 cx P57m5_17 ?_
    refine r_ior X0 cx P57m5_18 ?_
    refine r_istoreN (fun zz => #[.val (.ref p), .val (.ref q), .val (.int zz), .val (.int (1 : Int32))]) X0 cx P57m5_19 (fun _ => rfl) (fun i5 e_i5 => ?_)
    refine r_iinc (1 : Int32) (fun zz => #[.val (.ref p), .val (.ref q), .val (.int i5), .val (.int zz)]) X0 cx P57m5_20 rfl rfl (fun _ => rfl) (fun i6 e_i6 => ?_)
    obtain rfl : i6 = (2 : Int32) := e_i6
    refine r_goto X0 cx P57m5_23 ?_
    refine r_iloadN X0 cx P57m5_4 rfl ?_
    refine r_bipush (8) X0 cx P57m5_5 rfl ?_
    refine r_icmpge X0 cx P57m5_7 (fun c => absurd c (by decide)) (fun _ => ?_)
    refine r_iloadN X0 cx P57m5_10 rfl ?_
    refine r_aloadN X0 cx P57m5_11 rfl ?_
    refine r_iloadN X0 cx P57m5_12 rfl ?_
    refine r_iaload X0 cx P57m5_13 A_p (2) rfl (v := x2) rfl ?_
    refine r_aloadN X0 cx P57m5_14 rfl ?_
    refine r_iloadN X0 cx P57m5_15 rfl ?_
    refine r_iaload X0 cx P57m5_16 A_q (2) rfl (v := y2) rfl ?_
    refine r_ixor X0 cx P57m5_17 ?_
    refine r_ior X0 cx P57m5_18 ?_
    refine r_istoreN (fun zz => #[.val (.ref p), .val (.ref q), .val (.int zz), .val (.int (2 : Int32))]) X0 cx P57m5_19 (fun _ => rfl) (fun i7 e_i7 => ?_)
    refine r_iinc (1 : Int32) (fun zz => #[.val (.ref p), .val (.ref q), .val (.int i7), .val (.int zz)]) X0 cx P57m5_20 rfl rfl (fun _ => rfl) (fun i8 e_i8 => ?_)
    obtain rfl : i8 = (3 : Int32) := e_i8
    refine r_goto X0 cx P57m5_23 ?_
    refine r_iloadN X0 cx P57m5_4 rfl ?_
    refine r_bipush (8) X0 cx P57m5_5 rfl ?_
    refine r_icmpge X0 cx P57m5_7 (fun c => absurd c (by decide)) (fun _ => ?_)
    refine r_iloadN X0 cx P57m5_10 rfl ?_
    refine r_aloadN X0 cx P57m5_11 rfl ?_
    refine r_iloadN X0 cx P57m5_12 rfl ?_
    refine r_iaload X0 cx P57m5_13 A_p (3) rfl (v := x3) rfl ?_
    refine r_aloadN X0 cx P57m5_14 rfl ?_
    refine r_iloadN X0 cx P57m5_15 rfl ?_
    refine r_iaload X0 cx P57m5_16 A_q (3) rfl (v := y3) rfl ?_
    refine r_ixor X0 cx P57m5_17 ?_
    refine r_ior X0 cx P57m5_18 ?_
    refine r_istoreN (fun zz => #[.val (.ref p), .val (.ref q), .val (.int zz), .val (.int (3 : Int32))]) X0 cx P57m5_19 (fun _ => rfl) (fun i9 e_i9 => ?_)
    refine r_iinc (1 : Int32) (fun zz => #[.val (.ref p), .val (.ref q), .val (.int i9), .val (.int zz)]) X0 cx P57m5_20 rfl rfl (fun _ => rfl) (fun i10 e_i10 => ?_)
    obtain rfl : i10 = (4 : Int32) := e_i10
    refine r_goto X0 cx P57m5_23 ?_
    refine r_iloadN X0 cx P57m5_4 rfl ?_
    refine r_bipush (8) X0 cx P57m5_5 rfl ?_
    refine r_icmpge X0 cx P57m5_7 (fun c => absurd c (by decide)) (fun _ => ?_)
    refine r_iloadN X0 cx P57m5_10 rfl ?_
    refine r_aloadN X0 cx P57m5_11 rfl ?_
    refine r_iloadN X0 cx P57m5_12 rfl ?_
    refine r_iaload X0 cx P57m5_13 A_p (4) rfl (v := x4) rfl ?_
    refine r_aloadN X0 cx P57m5_14 rfl ?_
    refine r_iloadN X0 cx P57m5_15 rfl ?_
    refine r_iaload X0 cx P57m5_16 A_q (4) rfl (v := y4) rfl ?_
    refine r_ixor X0 cx P57m5_17 ?_
    refine r_ior X0 cx P57m5_18 ?_
    refine r_istoreN (fun zz => #[.val (.ref p), .val (.ref q), .val (.int zz), .val (.int (4 : Int32))]) X0 cx P57m5_19 (fun _ => rfl) (fun i11 e_i11 => ?_)
    refine r_iinc (1 : Int32) (fun zz => #[.val (.ref p), .val (.ref q), .val (.int i11), .val (.int zz)]) X0 cx P57m5_20 rfl rfl (fun _ => rfl) (fun i12 e_i12 => ?_)
    obtain rfl : i12 = (5 : Int32) := e_i12
    refine r_goto X0 cx P57m5_23 ?_
    refine r_iloadN X0 cx P57m5_4 rfl ?_
    refine r_bipush (8) X0 cx P57m5_5 rfl ?_
    refine r_icmpge X0 cx P57m5_7 (fun c => absurd c (by decide)) (fun _ => ?_)
    refine r_iloadN X0 cx P57m5_10 rfl ?_
    refine r_aloadN X0 cx P57m5_11 rfl ?_
    refine r_iloadN X0 cx P57m5_12 rfl ?_
    refine r_iaload X0 cx P57m5_13 A_p (5) rfl (v := x5) rfl ?_
    refine r_aloadN X0 cx P57m5_14 rfl ?_
    refine r_iloadN X0 cx P57m5_15 rfl ?_
    refine r_iaload X0 cx P57m5_16 A_q (5) rfl (v := y5) rfl ?_
    refine r_ixor X0 cx P57m5_17 ?_
    refine r_ior X0 cx P57m5_18 ?_
    refine r_istoreN (fun zz => #[.val (.ref p), .val (.ref q), .val (.int zz), .val (.int (5 : Int32))]) X0 cx P57m5_19 (fun _ => rfl) (fun i13 e_i13 => ?_)
    refine r_iinc (1 : Int32) (fun zz => #[.val (.ref p), .val (.ref q), .val (.int i13), .val (.int zz)]) X0 cx P57m5_20 rfl rfl (fun _ => rfl) (fun i14 e_i14 => ?_)
    obtain rfl : i14 = (6 : Int32) := e_i14
    refine r_goto X0 cx P57m5_23 ?_
    refine r_iloadN X0 cx P57m5_4 rfl ?_
    refine r_bipush (8) X0 cx P57m5_5 rfl ?_
    refine r_icmpge X0 cx P57m5_7 (fun c => absurd c (by decide)) (fun _ => ?_)
    refine r_iloadN X0 cx P57m5_10 rfl ?_
    refine r_aloadN X0 cx P57m5_11 rfl ?_
    refine r_iloadN X0 cx P57m5_12 rfl ?_
    refine r_iaload X0 cx P57m5_13 A_p (6) rfl (v := x6) rfl ?_
    refine r_aloadN X0 cx P57m5_14 rfl ?_
    refine r_iloadN X0 cx P57m5_15 rfl ?_
    refine r_iaload X0 cx P57m5_16 A_q (6) rfl (v := y6) rfl ?_
    refine r_ixor X0 cx P57m5_17 ?_
    refine r_ior X0 cx P57m5_18 ?_
    refine r_istoreN (fun zz => #[.val (.ref p), .val (.ref q), .val (.int zz), .val (.int (6 : Int32))]) X0 cx P57m5_19 (fun _ => rfl) (fun i15 e_i15 => ?_)
    refine r_iinc (1 : Int32) (fun zz => #[.val (.ref p), .val (.ref q), .val (.int i15), .val (.int zz)]) X0 cx P57m5_20 rfl rfl (fun _ => rfl) (fun i16 e_i16 => ?_)
    obtain rfl : i16 = (7 : Int32) := e_i16
    refine r_goto X0 cx P57m5_23 ?_
    refine r_iloadN X0 cx P57m5_4 rfl ?_
    refine r_bipush (8) X0 cx P57m5_5 rfl ?_
    refine r_icmpge X0 cx P57m5_7 (fun c => absurd c (by decide)) (fun _ => ?_)
    refine r_iloadN X0 cx P57m5_10 rfl ?_
    refine r_aloadN X0 cx P57m5_11 rfl ?_
    refine r_iloadN X0 cx P57m5_12 rfl ?_
    refine r_iaload X0 cx P57m5_13 A_p (7) rfl (v := x7) rfl ?_
    refine r_aloadN X0 cx P57m5_14 rfl ?_
    refine r_iloadN X0 cx P57m5_15 rfl ?_
    refine r_iaload X0 cx P57m5_16 A_q (7) rfl (v := y7) rfl ?_
    refine r_ixor X0 cx P57m5_17 ?_
    refine r_ior X0 cx P57m5_18 ?_
    refine r_istoreN (fun zz => #[.val (.ref p), .val (.ref q), .val (.int zz), .val (.int (7 : Int32))]) X0 cx P57m5_19 (fun _ => rfl) (fun i17 e_i17 => ?_)
    refine r_iinc (1 : Int32) (fun zz => #[.val (.ref p), .val (.ref q), .val (.int i17), .val (.int zz)]) X0 cx P57m5_20 rfl rfl (fun _ => rfl) (fun i18 e_i18 => ?_)
    obtain rfl : i18 = (8 : Int32) := e_i18
    refine r_goto X0 cx P57m5_23 ?_
    refine r_iloadN X0 cx P57m5_4 rfl ?_
    refine r_bipush (8) X0 cx P57m5_5 rfl ?_
    refine r_icmpge X0 cx P57m5_7 (fun _ => ?_) (fun c => absurd c (by decide))
    refine r_iloadN X0 cx P57m5_26 rfl ?_
    refine r_ifne X0 cx P57m5_27 (fun c27 => ?_) (fun c27 => ?_)
    · refine r_iconst (0) X0 cx P57m5_34 rfl ?_
      refine r_zreturn X0 cx P57m5_35 (by decide) (by decide) ?_
      refine ⟨rfl, ?_⟩
      simp only [e_i17, e_i15, e_i13, e_i11, e_i9, e_i7, e_i5, e_i3, own_or0, own_xor0] at c27
      simp only [List.cons.injEq, and_true]
      first | (rw [if_pos (by simp_all)]; rfl) | (rw [if_neg (by simp_all)]; rfl)
    · refine r_iconst (1) X0 cx P57m5_30 rfl ?_
      refine r_goto X0 cx P57m5_31 ?_
      refine r_zreturn X0 cx P57m5_35 (by decide) (by decide) ?_
      refine ⟨rfl, ?_⟩
      simp only [e_i17, e_i15, e_i13, e_i11, e_i9, e_i7, e_i5, e_i3, own_or0, own_xor0] at c27
      simp only [List.cons.injEq, and_true]
      first | (rw [if_pos (by simp_all)]; rfl) | (rw [if_neg (by simp_all)]; rfl)
theorem L_0 : Dc code 0 (.bipush 8) 2 2 := ⟨at_0, rfl⟩
theorem L_2 : Dc code 2 (.newarray .int) 2 4 := ⟨at_2, rfl⟩
theorem L_4 : Dc code 4 (.astore 9) 2 6 := ⟨at_4, rfl⟩
theorem L_6 : Dc code 6 (.aload 9) 2 8 := ⟨at_6, rfl⟩
theorem L_8 : Dc code 8 (.iconst 0) 1 9 := ⟨at_8, rfl⟩
theorem L_9 : Dc code 9 (.lload_n 0) 1 10 := ⟨at_9, rfl⟩
theorem L_10 : Dc code 10 (.l2i) 1 11 := ⟨at_10, rfl⟩
theorem L_11 : Dc code 11 (.iastore) 1 12 := ⟨at_11, rfl⟩
theorem L_12 : Dc code 12 (.aload 9) 2 14 := ⟨at_12, rfl⟩
theorem L_14 : Dc code 14 (.iconst 1) 1 15 := ⟨at_14, rfl⟩
theorem L_15 : Dc code 15 (.lload_n 0) 1 16 := ⟨at_15, rfl⟩
theorem L_16 : Dc code 16 (.bipush 32) 2 18 := ⟨at_16, rfl⟩
theorem L_18 : Dc code 18 (.lushr) 1 19 := ⟨at_18, rfl⟩
theorem L_19 : Dc code 19 (.l2i) 1 20 := ⟨at_19, rfl⟩
theorem L_20 : Dc code 20 (.iastore) 1 21 := ⟨at_20, rfl⟩
theorem L_21 : Dc code 21 (.aload 9) 2 23 := ⟨at_21, rfl⟩
theorem L_23 : Dc code 23 (.iconst 2) 1 24 := ⟨at_23, rfl⟩
theorem L_24 : Dc code 24 (.lload_n 2) 1 25 := ⟨at_24, rfl⟩
theorem L_25 : Dc code 25 (.l2i) 1 26 := ⟨at_25, rfl⟩
theorem L_26 : Dc code 26 (.iastore) 1 27 := ⟨at_26, rfl⟩
theorem L_27 : Dc code 27 (.aload 9) 2 29 := ⟨at_27, rfl⟩
theorem L_29 : Dc code 29 (.iconst 3) 1 30 := ⟨at_29, rfl⟩
theorem L_30 : Dc code 30 (.lload_n 2) 1 31 := ⟨at_30, rfl⟩
theorem L_31 : Dc code 31 (.bipush 32) 2 33 := ⟨at_31, rfl⟩
theorem L_33 : Dc code 33 (.lushr) 1 34 := ⟨at_33, rfl⟩
theorem L_34 : Dc code 34 (.l2i) 1 35 := ⟨at_34, rfl⟩
theorem L_35 : Dc code 35 (.iastore) 1 36 := ⟨at_35, rfl⟩
theorem L_36 : Dc code 36 (.aload 9) 2 38 := ⟨at_36, rfl⟩
theorem L_38 : Dc code 38 (.iconst 4) 1 39 := ⟨at_38, rfl⟩
theorem L_39 : Dc code 39 (.lload 4) 2 41 := ⟨at_39, rfl⟩
theorem L_41 : Dc code 41 (.l2i) 1 42 := ⟨at_41, rfl⟩
theorem L_42 : Dc code 42 (.iastore) 1 43 := ⟨at_42, rfl⟩
theorem L_43 : Dc code 43 (.aload 9) 2 45 := ⟨at_43, rfl⟩
theorem L_45 : Dc code 45 (.iconst 5) 1 46 := ⟨at_45, rfl⟩
theorem L_46 : Dc code 46 (.lload 4) 2 48 := ⟨at_46, rfl⟩
theorem L_48 : Dc code 48 (.bipush 32) 2 50 := ⟨at_48, rfl⟩
theorem L_50 : Dc code 50 (.lushr) 1 51 := ⟨at_50, rfl⟩
theorem L_51 : Dc code 51 (.l2i) 1 52 := ⟨at_51, rfl⟩
theorem L_52 : Dc code 52 (.iastore) 1 53 := ⟨at_52, rfl⟩
theorem L_53 : Dc code 53 (.aload 9) 2 55 := ⟨at_53, rfl⟩
theorem L_55 : Dc code 55 (.bipush 6) 2 57 := ⟨at_55, rfl⟩
theorem L_57 : Dc code 57 (.lload_n 0) 1 58 := ⟨at_57, rfl⟩
theorem L_58 : Dc code 58 (.lload 4) 2 60 := ⟨at_58, rfl⟩
theorem L_60 : Dc code 60 (.lxor) 1 61 := ⟨at_60, rfl⟩
theorem L_61 : Dc code 61 (.l2i) 1 62 := ⟨at_61, rfl⟩
theorem L_62 : Dc code 62 (.iastore) 1 63 := ⟨at_62, rfl⟩
theorem L_63 : Dc code 63 (.aload 9) 2 65 := ⟨at_63, rfl⟩
theorem L_65 : Dc code 65 (.bipush 7) 2 67 := ⟨at_65, rfl⟩
theorem L_67 : Dc code 67 (.iload 6) 2 69 := ⟨at_67, rfl⟩
theorem L_69 : Dc code 69 (.iastore) 1 70 := ⟨at_69, rfl⟩
theorem L_70 : Dc code 70 (.bipush 8) 2 72 := ⟨at_70, rfl⟩
theorem L_72 : Dc code 72 (.newarray .int) 2 74 := ⟨at_72, rfl⟩
theorem L_74 : Dc code 74 (.dup) 1 75 := ⟨at_74, rfl⟩
theorem L_75 : Dc code 75 (.iconst 0) 1 76 := ⟨at_75, rfl⟩
theorem L_76 : Dc code 76 (.aload 9) 2 78 := ⟨at_76, rfl⟩
theorem L_78 : Dc code 78 (.iconst 0) 1 79 := ⟨at_78, rfl⟩
theorem L_79 : Dc code 79 (.iaload) 1 80 := ⟨at_79, rfl⟩
theorem L_80 : Dc code 80 (.iastore) 1 81 := ⟨at_80, rfl⟩
theorem L_81 : Dc code 81 (.dup) 1 82 := ⟨at_81, rfl⟩
theorem L_82 : Dc code 82 (.iconst 1) 1 83 := ⟨at_82, rfl⟩
theorem L_83 : Dc code 83 (.aload 9) 2 85 := ⟨at_83, rfl⟩
theorem L_85 : Dc code 85 (.iconst 1) 1 86 := ⟨at_85, rfl⟩
theorem L_86 : Dc code 86 (.iaload) 1 87 := ⟨at_86, rfl⟩
theorem L_87 : Dc code 87 (.iastore) 1 88 := ⟨at_87, rfl⟩
theorem L_88 : Dc code 88 (.dup) 1 89 := ⟨at_88, rfl⟩
theorem L_89 : Dc code 89 (.iconst 2) 1 90 := ⟨at_89, rfl⟩
theorem L_90 : Dc code 90 (.aload 9) 2 92 := ⟨at_90, rfl⟩
theorem L_92 : Dc code 92 (.iconst 2) 1 93 := ⟨at_92, rfl⟩
theorem L_93 : Dc code 93 (.iaload) 1 94 := ⟨at_93, rfl⟩
theorem L_94 : Dc code 94 (.iastore) 1 95 := ⟨at_94, rfl⟩
theorem L_95 : Dc code 95 (.dup) 1 96 := ⟨at_95, rfl⟩
theorem L_96 : Dc code 96 (.iconst 3) 1 97 := ⟨at_96, rfl⟩
theorem L_97 : Dc code 97 (.aload 9) 2 99 := ⟨at_97, rfl⟩
theorem L_99 : Dc code 99 (.iconst 3) 1 100 := ⟨at_99, rfl⟩
theorem L_100 : Dc code 100 (.iaload) 1 101 := ⟨at_100, rfl⟩
theorem L_101 : Dc code 101 (.iastore) 1 102 := ⟨at_101, rfl⟩
theorem L_102 : Dc code 102 (.dup) 1 103 := ⟨at_102, rfl⟩
theorem L_103 : Dc code 103 (.iconst 4) 1 104 := ⟨at_103, rfl⟩
theorem L_104 : Dc code 104 (.aload 9) 2 106 := ⟨at_104, rfl⟩
theorem L_106 : Dc code 106 (.iconst 4) 1 107 := ⟨at_106, rfl⟩
theorem L_107 : Dc code 107 (.iaload) 1 108 := ⟨at_107, rfl⟩
theorem L_108 : Dc code 108 (.iastore) 1 109 := ⟨at_108, rfl⟩
theorem L_109 : Dc code 109 (.dup) 1 110 := ⟨at_109, rfl⟩
theorem L_110 : Dc code 110 (.iconst 5) 1 111 := ⟨at_110, rfl⟩
theorem L_111 : Dc code 111 (.aload 9) 2 113 := ⟨at_111, rfl⟩
theorem L_113 : Dc code 113 (.iconst 5) 1 114 := ⟨at_113, rfl⟩
theorem L_114 : Dc code 114 (.iaload) 1 115 := ⟨at_114, rfl⟩
theorem L_115 : Dc code 115 (.iastore) 1 116 := ⟨at_115, rfl⟩
theorem L_116 : Dc code 116 (.dup) 1 117 := ⟨at_116, rfl⟩
theorem L_117 : Dc code 117 (.bipush 6) 2 119 := ⟨at_117, rfl⟩
theorem L_119 : Dc code 119 (.aload 9) 2 121 := ⟨at_119, rfl⟩
theorem L_121 : Dc code 121 (.bipush 6) 2 123 := ⟨at_121, rfl⟩
theorem L_123 : Dc code 123 (.iaload) 1 124 := ⟨at_123, rfl⟩
theorem L_124 : Dc code 124 (.iastore) 1 125 := ⟨at_124, rfl⟩
theorem L_125 : Dc code 125 (.dup) 1 126 := ⟨at_125, rfl⟩
theorem L_126 : Dc code 126 (.bipush 7) 2 128 := ⟨at_126, rfl⟩
theorem L_128 : Dc code 128 (.aload 9) 2 130 := ⟨at_128, rfl⟩
theorem L_130 : Dc code 130 (.bipush 7) 2 132 := ⟨at_130, rfl⟩
theorem L_132 : Dc code 132 (.iaload) 1 133 := ⟨at_132, rfl⟩
theorem L_133 : Dc code 133 (.iastore) 1 134 := ⟨at_133, rfl⟩
theorem L_134 : Dc code 134 (.astore 10) 2 136 := ⟨at_134, rfl⟩
theorem L_136 : Dc code 136 (.iload 6) 2 138 := ⟨at_136, rfl⟩
theorem L_138 : Dc code 138 (.bipush 7) 2 140 := ⟨at_138, rfl⟩
theorem L_140 : Dc code 140 (.iand) 1 141 := ⟨at_140, rfl⟩
theorem L_141 : Dc code 141 (.istore 11) 2 143 := ⟨at_141, rfl⟩
theorem L_143 : Dc code 143 (.iload 6) 2 145 := ⟨at_143, rfl⟩
theorem L_145 : Dc code 145 (.iconst 3) 1 146 := ⟨at_145, rfl⟩
theorem L_146 : Dc code 146 (.iushr) 1 147 := ⟨at_146, rfl⟩
theorem L_147 : Dc code 147 (.bipush 7) 2 149 := ⟨at_147, rfl⟩
theorem L_149 : Dc code 149 (.iand) 1 150 := ⟨at_149, rfl⟩
theorem L_150 : Dc code 150 (.istore 12) 2 152 := ⟨at_150, rfl⟩
theorem L_152 : Dc code 152 (.aload 10) 2 154 := ⟨at_152, rfl⟩
theorem L_154 : Dc code 154 (.iload 11) 2 156 := ⟨at_154, rfl⟩
theorem L_156 : Dc code 156 (.aload 10) 2 158 := ⟨at_156, rfl⟩
theorem L_158 : Dc code 158 (.iload 11) 2 160 := ⟨at_158, rfl⟩
theorem L_160 : Dc code 160 (.iaload) 1 161 := ⟨at_160, rfl⟩
theorem L_161 : Dc code 161 (.iload 7) 2 163 := ⟨at_161, rfl⟩
theorem L_163 : Dc code 163 (.ixor) 1 164 := ⟨at_163, rfl⟩
theorem L_164 : Dc code 164 (.iastore) 1 165 := ⟨at_164, rfl⟩
theorem L_165 : Dc code 165 (.aload 10) 2 167 := ⟨at_165, rfl⟩
theorem L_167 : Dc code 167 (.iload 12) 2 169 := ⟨at_167, rfl⟩
theorem L_169 : Dc code 169 (.aload 10) 2 171 := ⟨at_169, rfl⟩
theorem L_171 : Dc code 171 (.iload 12) 2 173 := ⟨at_171, rfl⟩
theorem L_173 : Dc code 173 (.iaload) 1 174 := ⟨at_173, rfl⟩
theorem L_174 : Dc code 174 (.iload 8) 2 176 := ⟨at_174, rfl⟩
theorem L_176 : Dc code 176 (.ixor) 1 177 := ⟨at_176, rfl⟩
theorem L_177 : Dc code 177 (.iastore) 1 178 := ⟨at_177, rfl⟩
theorem L_178 : Dc code 178 (.iload 11) 2 180 := ⟨at_178, rfl⟩
theorem L_180 : Dc code 180 (.iload 12) 2 182 := ⟨at_180, rfl⟩
theorem L_182 : Db code 182 (.if_icmp .ne 21) (21) 185 203 := ⟨at_182, rfl, by decide, by decide⟩
theorem L_185 : Dc code 185 (.iload 7) 2 187 := ⟨at_185, rfl⟩
theorem L_187 : Dc code 187 (.iload 8) 2 189 := ⟨at_187, rfl⟩
theorem L_189 : Dc code 189 (.ixor) 1 190 := ⟨at_189, rfl⟩
theorem L_190 : Db code 190 (.ifCond .ne 7) (7) 193 197 := ⟨at_190, rfl, by decide, by decide⟩
theorem L_193 : Dc code 193 (.iconst 1) 1 194 := ⟨at_193, rfl⟩
theorem L_194 : Db code 194 (.goto 4) (4) 197 198 := ⟨at_194, rfl, by decide, by decide⟩
theorem L_197 : Dc code 197 (.iconst 0) 1 198 := ⟨at_197, rfl⟩
theorem L_198 : Dc code 198 (.istore 13) 2 200 := ⟨at_198, rfl⟩
theorem L_200 : Db code 200 (.goto 20) (20) 203 220 := ⟨at_200, rfl, by decide, by decide⟩
theorem L_203 : Dc code 203 (.iload 7) 2 205 := ⟨at_203, rfl⟩
theorem L_205 : Db code 205 (.ifCond .ne 12) (12) 208 217 := ⟨at_205, rfl, by decide, by decide⟩
theorem L_208 : Dc code 208 (.iload 8) 2 210 := ⟨at_208, rfl⟩
theorem L_210 : Db code 210 (.ifCond .ne 7) (7) 213 217 := ⟨at_210, rfl, by decide, by decide⟩
theorem L_213 : Dc code 213 (.iconst 1) 1 214 := ⟨at_213, rfl⟩
theorem L_214 : Db code 214 (.goto 4) (4) 217 218 := ⟨at_214, rfl, by decide, by decide⟩
theorem L_217 : Dc code 217 (.iconst 0) 1 218 := ⟨at_217, rfl⟩
theorem L_218 : Dc code 218 (.istore 13) 2 220 := ⟨at_218, rfl⟩
theorem L_220 : Dc code 220 (.aload 9) 2 222 := ⟨at_220, rfl⟩
theorem L_222 : Dc code 222 (.aload 10) 2 224 := ⟨at_222, rfl⟩
theorem L_224 : Dc code 224 (.invokestatic 7) 3 227 := ⟨at_224, rfl⟩
theorem L_227 : Dc code 227 (.iload 13) 2 229 := ⟨at_227, rfl⟩
theorem L_229 : Db code 229 (.if_icmp .ne 7) (7) 232 236 := ⟨at_229, rfl, by decide, by decide⟩
theorem L_232 : Dc code 232 (.iconst 1) 1 233 := ⟨at_232, rfl⟩
theorem L_233 : Db code 233 (.goto 4) (4) 236 237 := ⟨at_233, rfl, by decide, by decide⟩
theorem L_236 : Dc code 236 (.iconst 0) 1 237 := ⟨at_236, rfl⟩
theorem L_237 : Dc code 237 (.ireturn) 1 238 := ⟨at_237, rfl⟩
theorem ef_L (m : MethodId) (i0 : Int64) (i1 : Int64) (i2 : Int64) (i3 : Int32) (i4 : Int32) (i5 : Int32) : entryFrame m #[(.long i0), (.long i1), (.long i2), (.int i3), (.int i4), (.int i5)] maxLocals = mkF m 0 #[.val (.long i0), .second, .val (.long i1), .second, .val (.long i2), .second, .val (.int i3), .val (.int i4), .val (.int i5), .unset, .unset, .unset, .unset, .unset] [] := by first | (simp [entryFrame, mkF, argsToLocals, Value.category, maxLocals]; done) | rfl
set_option maxRecDepth 65536 in
set_option maxHeartbeats 40000000 in
theorem con_L (l : Launch) (Z : State) (a0 : Array Value) (hw : Tb tables_1 a0 Z) (i0 : Int64) (i1 : Int64) (i2 : Int64) (i3 : Int32) (i4 : Int32) (i5 : Int32) (h0 : Heap) (n0 : Nat) (Z0 : n0 ≤ h0.size)  :
    Con l Z x code maxLocals ret room_1 #[(.long i0), (.long i1), (.long i2), (.int i3), (.int i4), (.int i5)] h0 n0 (fun v _ => v = some (.int 1)) := by
  refine Con.of (plainFor_of_name (by decide +kernel)) Z0 ?_
  intro K hl hZ hn cx T0 X0
  subst hl hZ hn
  refine Run.cast (ef_L K.m i0 i1 i2 i3 i4 i5) ?_
  refine r_bipush (8) X0 cx L_0 rfl ?_
  refine r_newarray X0 cx L_2 (hw.get 0 rfl) (8) 8 rfl (Nat.le_refl _) (by decide) (by decide) (by decide) (fun T1 h1 ra ea1 g_ra X1 Ex1 A1 => ?_)
  have A_ra : AI .int K.Z h1 ra [0, 0, 0, 0, 0, 0, 0, 0] := AI.new A1
  refine r_astore #[.val (.long i0), .second, .val (.long i1), .second, .val (.long i2), .second, .val (.int i3), .val (.int i4), .val (.int i5), .val (.ref ra), .unset, .unset, .unset, .unset] X1 cx L_4 rfl ?_
  refine r_aload X1 cx L_6 rfl ?_
  refine r_iconst (0) X1 cx L_8 rfl ?_
  refine r_lloadN X1 cx L_9 rfl ?_
  refine r_l2i X1 cx L_10 ?_
  refine r_iastore X1 cx L_11 A_ra (0) rfl (ltb rfl) g_ra (fun T2 h2 X2 W2 N2 => ?_)
  have A_ra : AI .int K.Z h2 ra [(Int64.toInt32 i0), 0, 0, 0, 0, 0, 0, 0] := N2
  refine r_aload X2 cx L_12 rfl ?_
  refine r_iconst (1) X2 cx L_14 rfl ?_
  refine r_lloadN X2 cx L_15 rfl ?_
  refine r_bipush (32) X2 cx L_16 rfl ?_
  refine r_lushr X2 cx L_18 ?_
  refine r_l2i X2 cx L_19 ?_
  refine r_iastore X2 cx L_20 A_ra (1) rfl (ltb rfl) g_ra (fun T3 h3 X3 W3 N3 => ?_)
  have A_ra : AI .int K.Z h3 ra [(Int64.toInt32 i0), (Int64.toInt32 (XT.ushrL i0 (32 : Int32))), 0, 0, 0, 0, 0, 0] := N3
  refine r_aload X3 cx L_21 rfl ?_
  refine r_iconst (2) X3 cx L_23 rfl ?_
  refine r_lloadN X3 cx L_24 rfl ?_
  refine r_l2i X3 cx L_25 ?_
  refine r_iastore X3 cx L_26 A_ra (2) rfl (ltb rfl) g_ra (fun T4 h4 X4 W4 N4 => ?_)
  have A_ra : AI .int K.Z h4 ra [(Int64.toInt32 i0), (Int64.toInt32 (XT.ushrL i0 (32 : Int32))), (Int64.toInt32 i1), 0, 0, 0, 0, 0] := N4
  refine r_aload X4 cx L_27 rfl ?_
  refine r_iconst (3) X4 cx L_29 rfl ?_
  refine r_lloadN X4 cx L_30 rfl ?_
  refine r_bipush (32) X4 cx L_31 rfl ?_
  refine r_lushr X4 cx L_33 ?_
  refine r_l2i X4 cx L_34 ?_
  refine r_iastore X4 cx L_35 A_ra (3) rfl (ltb rfl) g_ra (fun T5 h5 X5 W5 N5 => ?_)
  have A_ra : AI .int K.Z h5 ra [(Int64.toInt32 i0), (Int64.toInt32 (XT.ushrL i0 (32 : Int32))), (Int64.toInt32 i1), (Int64.toInt32 (XT.ushrL i1 (32 : Int32))), 0, 0, 0, 0] := N5
  refine r_aload X5 cx L_36 rfl ?_
  refine r_iconst (4) X5 cx L_38 rfl ?_
  refine r_lload X5 cx L_39 rfl ?_
  refine r_l2i X5 cx L_41 ?_
  refine r_iastore X5 cx L_42 A_ra (4) rfl (ltb rfl) g_ra (fun T6 h6 X6 W6 N6 => ?_)
  have A_ra : AI .int K.Z h6 ra [(Int64.toInt32 i0), (Int64.toInt32 (XT.ushrL i0 (32 : Int32))), (Int64.toInt32 i1), (Int64.toInt32 (XT.ushrL i1 (32 : Int32))), (Int64.toInt32 i2), 0, 0, 0] := N6
  refine r_aload X6 cx L_43 rfl ?_
  refine r_iconst (5) X6 cx L_45 rfl ?_
  refine r_lload X6 cx L_46 rfl ?_
  refine r_bipush (32) X6 cx L_48 rfl ?_
  refine r_lushr X6 cx L_50 ?_
  refine r_l2i X6 cx L_51 ?_
  refine r_iastore X6 cx L_52 A_ra (5) rfl (ltb rfl) g_ra (fun T7 h7 X7 W7 N7 => ?_)
  have A_ra : AI .int K.Z h7 ra [(Int64.toInt32 i0), (Int64.toInt32 (XT.ushrL i0 (32 : Int32))), (Int64.toInt32 i1), (Int64.toInt32 (XT.ushrL i1 (32 : Int32))), (Int64.toInt32 i2), (Int64.toInt32 (XT.ushrL i2 (32 : Int32))), 0, 0] := N7
  refine r_aload X7 cx L_53 rfl ?_
  refine r_bipush (6) X7 cx L_55 rfl ?_
  refine r_lloadN X7 cx L_57 rfl ?_
  refine r_lload X7 cx L_58 rfl ?_
  refine r_lxor X7 cx L_60 ?_
  refine r_l2i X7 cx L_61 ?_
  refine r_iastore X7 cx L_62 A_ra (6) rfl (ltb rfl) g_ra (fun T8 h8 X8 W8 N8 => ?_)
  have A_ra : AI .int K.Z h8 ra [(Int64.toInt32 i0), (Int64.toInt32 (XT.ushrL i0 (32 : Int32))), (Int64.toInt32 i1), (Int64.toInt32 (XT.ushrL i1 (32 : Int32))), (Int64.toInt32 i2), (Int64.toInt32 (XT.ushrL i2 (32 : Int32))), (Int64.toInt32 (i0 ^^^ i2)), 0] := N8
  refine r_aload X8 cx L_63 rfl ?_
  refine r_bipush (7) X8 cx L_65 rfl ?_
  refine r_iload X8 cx L_67 rfl ?_
  refine r_iastore X8 cx L_69 A_ra (7) rfl (ltb rfl) g_ra (fun T9 h9 X9 W9 N9 => ?_)
  have A_ra : AI .int K.Z h9 ra [(Int64.toInt32 i0), (Int64.toInt32 (XT.ushrL i0 (32 : Int32))), (Int64.toInt32 i1), (Int64.toInt32 (XT.ushrL i1 (32 : Int32))), (Int64.toInt32 i2), (Int64.toInt32 (XT.ushrL i2 (32 : Int32))), (Int64.toInt32 (i0 ^^^ i2)), i3] := N9
  refine r_bipush (8) X9 cx L_70 rfl ?_
  refine r_newarray X9 cx L_72 (hw.get 0 rfl) (8) 8 rfl (Nat.le_refl _) (by decide) (by decide) (by decide) (fun T10 h10 rb ea10 g_rb X10 Ex10 A10 => ?_)
  have ne_rb_ra : rb ≠ ra := ne_new ea10 A_ra.lt
  replace A_ra := A_ra.ext Ex10
  have A_rb : AI .int K.Z h10 rb [0, 0, 0, 0, 0, 0, 0, 0] := AI.new A10
  refine r_dup X10 cx L_74 rfl ?_
  refine r_iconst (0) X10 cx L_75 rfl ?_
  refine r_aload X10 cx L_76 rfl ?_
  refine r_iconst (0) X10 cx L_78 rfl ?_
  refine r_iaload X10 cx L_79 A_ra (0) rfl (v := (Int64.toInt32 i0)) rfl ?_
  refine r_iastore X10 cx L_80 A_rb (0) rfl (ltb rfl) g_rb (fun T11 h11 X11 W11 N11 => ?_)
  replace A_ra := A_ra.other W11 ne_rb_ra.symm
  have A_rb : AI .int K.Z h11 rb [(Int64.toInt32 i0), 0, 0, 0, 0, 0, 0, 0] := N11
  refine r_dup X11 cx L_81 rfl ?_
  refine r_iconst (1) X11 cx L_82 rfl ?_
  refine r_aload X11 cx L_83 rfl ?_
  refine r_iconst (1) X11 cx L_85 rfl ?_
  refine r_iaload X11 cx L_86 A_ra (1) rfl (v := (Int64.toInt32 (XT.ushrL i0 (32 : Int32)))) rfl ?_
  refine r_iastore X11 cx L_87 A_rb (1) rfl (ltb rfl) g_rb (fun T12 h12 X12 W12 N12 => ?_)
  replace A_ra := A_ra.other W12 ne_rb_ra.symm
  have A_rb : AI .int K.Z h12 rb [(Int64.toInt32 i0), (Int64.toInt32 (XT.ushrL i0 (32 : Int32))), 0, 0, 0, 0, 0, 0] := N12
  refine r_dup X12 cx L_88 rfl ?_
  refine r_iconst (2) X12 cx L_89 rfl ?_
  refine r_aload X12 cx L_90 rfl ?_
  refine r_iconst (2) X12 cx L_92 rfl ?_
  refine r_iaload X12 cx L_93 A_ra (2) rfl (v := (Int64.toInt32 i1)) rfl ?_
  refine r_iastore X12 cx L_94 A_rb (2) rfl (ltb rfl) g_rb (fun T13 h13 X13 W13 N13 => ?_)
  replace A_ra := A_ra.other W13 ne_rb_ra.symm
  have A_rb : AI .int K.Z h13 rb [(Int64.toInt32 i0), (Int64.toInt32 (XT.ushrL i0 (32 : Int32))), (Int64.toInt32 i1), 0, 0, 0, 0, 0] := N13
  refine r_dup X13 cx L_95 rfl ?_
  refine r_iconst (3) X13 cx L_96 rfl ?_
  refine r_aload X13 cx L_97 rfl ?_
  refine r_iconst (3) X13 cx L_99 rfl ?_
  refine r_iaload X13 cx L_100 A_ra (3) rfl (v := (Int64.toInt32 (XT.ushrL i1 (32 : Int32)))) rfl ?_
  refine r_iastore X13 cx L_101 A_rb (3) rfl (ltb rfl) g_rb (fun T14 h14 X14 W14 N14 => ?_)
  replace A_ra := A_ra.other W14 ne_rb_ra.symm
  have A_rb : AI .int K.Z h14 rb [(Int64.toInt32 i0), (Int64.toInt32 (XT.ushrL i0 (32 : Int32))), (Int64.toInt32 i1), (Int64.toInt32 (XT.ushrL i1 (32 : Int32))), 0, 0, 0, 0] := N14
  refine r_dup X14 cx L_102 rfl ?_
  refine r_iconst (4) X14 cx L_103 rfl ?_
  refine r_aload X14 cx L_104 rfl ?_
  refine r_iconst (4) X14 cx L_106 rfl ?_
  refine r_iaload X14 cx L_107 A_ra (4) rfl (v := (Int64.toInt32 i2)) rfl ?_
  refine r_iastore X14 cx L_108 A_rb (4) rfl (ltb rfl) g_rb (fun T15 h15 X15 W15 N15 => ?_)
  replace A_ra := A_ra.other W15 ne_rb_ra.symm
  have A_rb : AI .int K.Z h15 rb [(Int64.toInt32 i0), (Int64.toInt32 (XT.ushrL i0 (32 : Int32))), (Int64.toInt32 i1), (Int64.toInt32 (XT.ushrL i1 (32 : Int32))), (Int64.toInt32 i2), 0, 0, 0] := N15
  refine r_dup X15 cx L_109 rfl ?_
  refine r_iconst (5) X15 cx L_110 rfl ?_
  refine r_aload X15 cx L_111 rfl ?_
  refine r_iconst (5) X15 cx L_113 rfl ?_
  refine r_iaload X15 cx L_114 A_ra (5) rfl (v := (Int64.toInt32 (XT.ushrL i2 (32 : Int32)))) rfl ?_
  refine r_iastore X15 cx L_115 A_rb (5) rfl (ltb rfl) g_rb (fun T16 h16 X16 W16 N16 => ?_)
  replace A_ra := A_ra.other W16 ne_rb_ra.symm
  have A_rb : AI .int K.Z h16 rb [(Int64.toInt32 i0), (Int64.toInt32 (XT.ushrL i0 (32 : Int32))), (Int64.toInt32 i1), (Int64.toInt32 (XT.ushrL i1 (32 : Int32))), (Int64.toInt32 i2), (Int64.toInt32 (XT.ushrL i2 (32 : Int32))), 0, 0] := N16
  refine r_dup X16 cx L_116 rfl ?_
  refine r_bipush (6) X16 cx L_117 rfl ?_
  refine r_aload X16 cx L_119 rfl ?_
  refine r_bipush (6) X16 cx L_121 rfl ?_
  refine r_iaload X16 cx L_123 A_ra (6) rfl (v := (Int64.toInt32 (i0 ^^^ i2))) rfl ?_
  refine r_iastore X16 cx L_124 A_rb (6) rfl (ltb rfl) g_rb (fun T17 h17 X17 W17 N17 => ?_)
  replace A_ra := A_ra.other W17 ne_rb_ra.symm
  have A_rb : AI .int K.Z h17 rb [(Int64.toInt32 i0), (Int64.toInt32 (XT.ushrL i0 (32 : Int32))), (Int64.toInt32 i1), (Int64.toInt32 (XT.ushrL i1 (32 : Int32))), (Int64.toInt32 i2), (Int64.toInt32 (XT.ushrL i2 (32 : Int32))), (Int64.toInt32 (i0 ^^^ i2)), 0] := N17
  refine r_dup X17 cx L_125 rfl ?_
  refine r_bipush (7) X17 cx L_126 rfl ?_
  refine r_aload X17 cx L_128 rfl ?_
  refine r_bipush (7) X17 cx L_130 rfl ?_
  refine r_iaload X17 cx L_132 A_ra (7) rfl (v := i3) rfl ?_
  refine r_iastore X17 cx L_133 A_rb (7) rfl (ltb rfl) g_rb (fun T18 h18 X18 W18 N18 => ?_)
  replace A_ra := A_ra.other W18 ne_rb_ra.symm
  have A_rb : AI .int K.Z h18 rb [(Int64.toInt32 i0), (Int64.toInt32 (XT.ushrL i0 (32 : Int32))), (Int64.toInt32 i1), (Int64.toInt32 (XT.ushrL i1 (32 : Int32))), (Int64.toInt32 i2), (Int64.toInt32 (XT.ushrL i2 (32 : Int32))), (Int64.toInt32 (i0 ^^^ i2)), i3] := N18
  refine r_astore #[.val (.long i0), .second, .val (.long i1), .second, .val (.long i2), .second, .val (.int i3), .val (.int i4), .val (.int i5), .val (.ref ra), .val (.ref rb), .unset, .unset, .unset] X18 cx L_134 rfl ?_
  refine r_iload X18 cx L_136 rfl ?_
  refine r_bipush (7) X18 cx L_138 rfl ?_
  refine r_iand X18 cx L_140 ?_
  refine r_istore (fun zz => #[.val (.long i0), .second, .val (.long i1), .second, .val (.long i2), .second, .val (.int i3), .val (.int i4), .val (.int i5), .val (.ref ra), .val (.ref rb), .val (.int zz), .unset, .unset]) X18 cx L_141 (fun _ => rfl) (fun ii e_ii => ?_)
  refine r_iload X18 cx L_143 rfl ?_
  refine r_iconst (3) X18 cx L_145 rfl ?_
  refine r_iushr X18 cx L_146 ?_
  refine r_bipush (7) X18 cx L_147 rfl ?_
  refine r_iand X18 cx L_149 ?_
  refine r_istore (fun zz => #[.val (.long i0), .second, .val (.long i1), .second, .val (.long i2), .second, .val (.int i3), .val (.int i4), .val (.int i5), .val (.ref ra), .val (.ref rb), .val (.int ii), .val (.int zz), .unset]) X18 cx L_150 (fun _ => rfl) (fun jj e_jj => ?_)
  obtain ⟨xs, exs⟩ : ∃ xs : List Int32, xs = [(Int64.toInt32 i0), (Int64.toInt32 (XT.ushrL i0 (32 : Int32))), (Int64.toInt32 i1), (Int64.toInt32 (XT.ushrL i1 (32 : Int32))), (Int64.toInt32 i2), (Int64.toInt32 (XT.ushrL i2 (32 : Int32))), (Int64.toInt32 (i0 ^^^ i2)), i3] := ⟨_, rfl⟩
  rw [← exs] at A_ra A_rb
  have hxl : xs.length = 8 := by rw [exs]; rfl
  clear exs
  obtain ⟨ni, hni, eni⟩ := own_m7n i3
  obtain ⟨nj, hnj, enj⟩ := own_m7n (XT.ushr i3 3)
  replace eni := e_ii.trans eni
  replace enj := e_jj.trans enj
  refine r_aload X18 cx L_152 rfl ?_
  refine r_iload X18 cx L_154 rfl ?_
  refine r_aload X18 cx L_156 rfl ?_
  refine r_iload X18 cx L_158 rfl ?_
  refine r_iaload X18 cx L_160 A_rb (ni) eni (v := (xs[ni]?.getD 0)) (own_gd (by omega)) ?_
  refine r_iload X18 cx L_161 rfl ?_
  refine r_ixor X18 cx L_163 ?_
  refine r_iastore X18 cx L_164 A_rb (ni) eni (by omega) g_rb (fun T19 h19 X19 W19 N19 => ?_)
  replace A_ra := A_ra.other W19 ne_rb_ra.symm
  have A_rb : AI .int K.Z h19 rb (xs.set ni (xs[ni]?.getD 0 ^^^ i4)) := N19
  refine r_aload X19 cx L_165 rfl ?_
  refine r_iload X19 cx L_167 rfl ?_
  refine r_aload X19 cx L_169 rfl ?_
  refine r_iload X19 cx L_171 rfl ?_
  refine r_iaload X19 cx L_173 A_rb (nj) enj (v := ((xs.set ni (xs[ni]?.getD 0 ^^^ i4))[nj]?.getD 0)) (own_gd (by rw [List.length_set]; omega)) ?_
  refine r_iload X19 cx L_174 rfl ?_
  refine r_ixor X19 cx L_176 ?_
  refine r_iastore X19 cx L_177 A_rb (nj) enj (by rw [List.length_set]; omega) g_rb (fun T20 h20 X20 W20 N20 => ?_)
  replace A_ra := A_ra.other W20 ne_rb_ra.symm
  have A_rb : AI .int K.Z h20 rb (own_l2 xs ni nj i4 i5) := N20
  refine r_iload X20 cx L_178 rfl ?_
  refine r_iload X20 cx L_180 rfl ?_
  refine r_icmpne X20 cx L_182 (fun c182 => ?_) (fun c182 => ?_)
  · refine r_iload X20 cx L_203 rfl ?_
    refine r_ifne X20 cx L_205 (fun c205 => ?_) (fun c205 => ?_)
    · refine r_iconst (0) X20 cx L_217 rfl ?_
      refine r_istore (fun zz => #[.val (.long i0), .second, .val (.long i1), .second, .val (.long i2), .second, .val (.int i3), .val (.int i4), .val (.int i5), .val (.ref ra), .val (.ref rb), .val (.int ii), .val (.int jj), .val (.int zz)]) X20 cx L_218 (fun _ => rfl) (fun i21 e_i21 => ?_)
      subst e_i21
      refine r_aload X20 cx L_220 rfl ?_
      refine r_aload X20 cx L_222 rfl ?_
      refine r_static [(.ref ra), (.ref rb)] [] X20 cx L_224 (hw.get 1 rfl) (hw.get 2 rfl) (hw.get 3 rfl) (hw.get 4 rfl) (by decide) (con_P57m5 K.l K.Z a0 hw ra rb h20 K.n0 X20.ge xs (own_l2 xs ni nj i4 i5) hxl (by simp [own_l2, hxl]) A_ra A_rb) (lenOf pd_0 rfl) rfl rfl (by decide) (leb rfl) (by decide) (by decide) (fun T22 h22 v22 X22 q22 => ?_) (fun _ _ q => Nat.le_of_eq (congrArg Array.size q.1))
      obtain ⟨rfl, rfl⟩ := q22
      refine r_iload X22 cx L_227 rfl ?_
      refine r_icmpne X22 cx L_229 (fun c229 => ?_) (fun c229 => ?_)
      · exfalso
        apply c229
        by_cases q : ni = nj
        · subst q
          by_cases r : i4 ^^^ i5 = 0
          · rw [if_pos ((own_same (by omega)).mpr r)]
            all_goals first | rfl | (exfalso; simp_all)
          · rw [if_neg (fun u => r ((own_same (by omega)).mp u))]
            all_goals first | rfl | (exfalso; simp_all)
        · have q2 : ¬ Int32.ofNat ni = Int32.ofNat nj := fun e => q ((own_inj hni hnj).mp e)
          by_cases r : i4 = 0 ∧ i5 = 0
          · rw [if_pos ((own_diff q (by omega) (by omega)).mpr r)]
            all_goals first | rfl | (exfalso; simp_all)
          · rw [if_neg (fun u => r ((own_diff q (by omega) (by omega)).mp u))]
            all_goals first | rfl | (exfalso; simp_all)
      · refine r_iconst (1) X22 cx L_232 rfl ?_
        refine r_goto X22 cx L_233 ?_
        refine r_zreturn X22 cx L_237 (by decide) (by decide) ?_
        rfl
    · refine r_iload X20 cx L_208 rfl ?_
      refine r_ifne X20 cx L_210 (fun c210 => ?_) (fun c210 => ?_)
      · refine r_iconst (0) X20 cx L_217 rfl ?_
        refine r_istore (fun zz => #[.val (.long i0), .second, .val (.long i1), .second, .val (.long i2), .second, .val (.int i3), .val (.int i4), .val (.int i5), .val (.ref ra), .val (.ref rb), .val (.int ii), .val (.int jj), .val (.int zz)]) X20 cx L_218 (fun _ => rfl) (fun i21 e_i21 => ?_)
        subst e_i21
        refine r_aload X20 cx L_220 rfl ?_
        refine r_aload X20 cx L_222 rfl ?_
        refine r_static [(.ref ra), (.ref rb)] [] X20 cx L_224 (hw.get 1 rfl) (hw.get 2 rfl) (hw.get 3 rfl) (hw.get 4 rfl) (by decide) (con_P57m5 K.l K.Z a0 hw ra rb h20 K.n0 X20.ge xs (own_l2 xs ni nj i4 i5) hxl (by simp [own_l2, hxl]) A_ra A_rb) (lenOf pd_0 rfl) rfl rfl (by decide) (leb rfl) (by decide) (by decide) (fun T22 h22 v22 X22 q22 => ?_) (fun _ _ q => Nat.le_of_eq (congrArg Array.size q.1))
        obtain ⟨rfl, rfl⟩ := q22
        refine r_iload X22 cx L_227 rfl ?_
        refine r_icmpne X22 cx L_229 (fun c229 => ?_) (fun c229 => ?_)
        · exfalso
          apply c229
          by_cases q : ni = nj
          · subst q
            by_cases r : i4 ^^^ i5 = 0
            · rw [if_pos ((own_same (by omega)).mpr r)]
              all_goals first | rfl | (exfalso; simp_all)
            · rw [if_neg (fun u => r ((own_same (by omega)).mp u))]
              all_goals first | rfl | (exfalso; simp_all)
          · have q2 : ¬ Int32.ofNat ni = Int32.ofNat nj := fun e => q ((own_inj hni hnj).mp e)
            by_cases r : i4 = 0 ∧ i5 = 0
            · rw [if_pos ((own_diff q (by omega) (by omega)).mpr r)]
              all_goals first | rfl | (exfalso; simp_all)
            · rw [if_neg (fun u => r ((own_diff q (by omega) (by omega)).mp u))]
              all_goals first | rfl | (exfalso; simp_all)
        · refine r_iconst (1) X22 cx L_232 rfl ?_
          refine r_goto X22 cx L_233 ?_
          refine r_zreturn X22 cx L_237 (by decide) (by decide) ?_
          rfl
      · refine r_iconst (1) X20 cx L_213 rfl ?_
        refine r_goto X20 cx L_214 ?_
        refine r_istore (fun zz => #[.val (.long i0), .second, .val (.long i1), .second, .val (.long i2), .second, .val (.int i3), .val (.int i4), .val (.int i5), .val (.ref ra), .val (.ref rb), .val (.int ii), .val (.int jj), .val (.int zz)]) X20 cx L_218 (fun _ => rfl) (fun i21 e_i21 => ?_)
        subst e_i21
        refine r_aload X20 cx L_220 rfl ?_
        refine r_aload X20 cx L_222 rfl ?_
        refine r_static [(.ref ra), (.ref rb)] [] X20 cx L_224 (hw.get 1 rfl) (hw.get 2 rfl) (hw.get 3 rfl) (hw.get 4 rfl) (by decide) (con_P57m5 K.l K.Z a0 hw ra rb h20 K.n0 X20.ge xs (own_l2 xs ni nj i4 i5) hxl (by simp [own_l2, hxl]) A_ra A_rb) (lenOf pd_0 rfl) rfl rfl (by decide) (leb rfl) (by decide) (by decide) (fun T22 h22 v22 X22 q22 => ?_) (fun _ _ q => Nat.le_of_eq (congrArg Array.size q.1))
        obtain ⟨rfl, rfl⟩ := q22
        refine r_iload X22 cx L_227 rfl ?_
        refine r_icmpne X22 cx L_229 (fun c229 => ?_) (fun c229 => ?_)
        · exfalso
          apply c229
          by_cases q : ni = nj
          · subst q
            by_cases r : i4 ^^^ i5 = 0
            · rw [if_pos ((own_same (by omega)).mpr r)]
              all_goals first | rfl | (exfalso; simp_all)
            · rw [if_neg (fun u => r ((own_same (by omega)).mp u))]
              all_goals first | rfl | (exfalso; simp_all)
          · have q2 : ¬ Int32.ofNat ni = Int32.ofNat nj := fun e => q ((own_inj hni hnj).mp e)
            by_cases r : i4 = 0 ∧ i5 = 0
            · rw [if_pos ((own_diff q (by omega) (by omega)).mpr r)]
              all_goals first | rfl | (exfalso; simp_all)
            · rw [if_neg (fun u => r ((own_diff q (by omega) (by omega)).mp u))]
              all_goals first | rfl | (exfalso; simp_all)
        · refine r_iconst (1) X22 cx L_232 rfl ?_
          refine r_goto X22 cx L_233 ?_
          refine r_zreturn X22 cx L_237 (by decide) (by decide) ?_
          rfl
  · refine r_iload X20 cx L_185 rfl ?_
    refine r_iload X20 cx L_187 rfl ?_
    refine r_ixor X20 cx L_189 ?_
    refine r_ifne X20 cx L_190 (fun c190 => ?_) (fun c190 => ?_)
    · refine r_iconst (0) X20 cx L_197 rfl ?_
      refine r_istore (fun zz => #[.val (.long i0), .second, .val (.long i1), .second, .val (.long i2), .second, .val (.int i3), .val (.int i4), .val (.int i5), .val (.ref ra), .val (.ref rb), .val (.int ii), .val (.int jj), .val (.int zz)]) X20 cx L_198 (fun _ => rfl) (fun i21 e_i21 => ?_)
      subst e_i21
      refine r_goto X20 cx L_200 ?_
      refine r_aload X20 cx L_220 rfl ?_
      refine r_aload X20 cx L_222 rfl ?_
      refine r_static [(.ref ra), (.ref rb)] [] X20 cx L_224 (hw.get 1 rfl) (hw.get 2 rfl) (hw.get 3 rfl) (hw.get 4 rfl) (by decide) (con_P57m5 K.l K.Z a0 hw ra rb h20 K.n0 X20.ge xs (own_l2 xs ni nj i4 i5) hxl (by simp [own_l2, hxl]) A_ra A_rb) (lenOf pd_0 rfl) rfl rfl (by decide) (leb rfl) (by decide) (by decide) (fun T22 h22 v22 X22 q22 => ?_) (fun _ _ q => Nat.le_of_eq (congrArg Array.size q.1))
      obtain ⟨rfl, rfl⟩ := q22
      refine r_iload X22 cx L_227 rfl ?_
      refine r_icmpne X22 cx L_229 (fun c229 => ?_) (fun c229 => ?_)
      · exfalso
        apply c229
        by_cases q : ni = nj
        · subst q
          by_cases r : i4 ^^^ i5 = 0
          · rw [if_pos ((own_same (by omega)).mpr r)]
            all_goals first | rfl | (exfalso; simp_all)
          · rw [if_neg (fun u => r ((own_same (by omega)).mp u))]
            all_goals first | rfl | (exfalso; simp_all)
        · have q2 : ¬ Int32.ofNat ni = Int32.ofNat nj := fun e => q ((own_inj hni hnj).mp e)
          by_cases r : i4 = 0 ∧ i5 = 0
          · rw [if_pos ((own_diff q (by omega) (by omega)).mpr r)]
            all_goals first | rfl | (exfalso; simp_all)
          · rw [if_neg (fun u => r ((own_diff q (by omega) (by omega)).mp u))]
            all_goals first | rfl | (exfalso; simp_all)
      · refine r_iconst (1) X22 cx L_232 rfl ?_
        refine r_goto X22 cx L_233 ?_
        refine r_zreturn X22 cx L_237 (by decide) (by decide) ?_
        rfl
    · refine r_iconst (1) X20 cx L_193 rfl ?_
      refine r_goto X20 cx L_194 ?_
      refine r_istore (fun zz => #[.val (.long i0), .second, .val (.long i1), .second, .val (.long i2), .second, .val (.int i3), .val (.int i4), .val (.int i5), .val (.ref ra), .val (.ref rb), .val (.int ii), .val (.int jj), .val (.int zz)]) X20 cx L_198 (fun _ => rfl) (fun i21 e_i21 => ?_)
      subst e_i21
      refine r_goto X20 cx L_200 ?_
      refine r_aload X20 cx L_220 rfl ?_
      refine r_aload X20 cx L_222 rfl ?_
      refine r_static [(.ref ra), (.ref rb)] [] X20 cx L_224 (hw.get 1 rfl) (hw.get 2 rfl) (hw.get 3 rfl) (hw.get 4 rfl) (by decide) (con_P57m5 K.l K.Z a0 hw ra rb h20 K.n0 X20.ge xs (own_l2 xs ni nj i4 i5) hxl (by simp [own_l2, hxl]) A_ra A_rb) (lenOf pd_0 rfl) rfl rfl (by decide) (leb rfl) (by decide) (by decide) (fun T22 h22 v22 X22 q22 => ?_) (fun _ _ q => Nat.le_of_eq (congrArg Array.size q.1))
      obtain ⟨rfl, rfl⟩ := q22
      refine r_iload X22 cx L_227 rfl ?_
      refine r_icmpne X22 cx L_229 (fun c229 => ?_) (fun c229 => ?_)
      · exfalso
        apply c229
        by_cases q : ni = nj
        · subst q
          by_cases r : i4 ^^^ i5 = 0
          · rw [if_pos ((own_same (by omega)).mpr r)]
            all_goals first | rfl | (exfalso; simp_all)
          · rw [if_neg (fun u => r ((own_same (by omega)).mp u))]
            all_goals first | rfl | (exfalso; simp_all)
        · have q2 : ¬ Int32.ofNat ni = Int32.ofNat nj := fun e => q ((own_inj hni hnj).mp e)
          by_cases r : i4 = 0 ∧ i5 = 0
          · rw [if_pos ((own_diff q (by omega) (by omega)).mpr r)]
            all_goals first | rfl | (exfalso; simp_all)
          · rw [if_neg (fun u => r ((own_diff q (by omega) (by omega)).mp u))]
            all_goals first | rfl | (exfalso; simp_all)
      · refine r_iconst (1) X22 cx L_232 rfl ?_
        refine r_goto X22 cx L_233 ?_
        refine r_zreturn X22 cx L_237 (by decide) (by decide) ?_
        rfl
set_option maxRecDepth 65536 in
set_option maxHeartbeats 40000000 in
theorem comes_1 {Post : Tables → Env → Array Value → State → Outcome → State → Prop} (hpost : ∀ tb e args s v u, (limb_1_1.after args s (.returned v) u = true ∧ limb_1_2.after args s (.returned v) u = true ∧ True) → FrameEnd s (.returned v) u (Jvm.fieldLocs frame_1_writes args s ++ Jvm.arrayLocs frame_1_arrays args s ++ Jvm.staticLocs frame_1_statics s) 16 128 → Post tb e args s (.returned v) u) :
    ArmFor flags0 classFile x code maxLocals ret World_1 tables_1 room_1 Calls_1 rest_1 Pre_1 Post := by
  intro l hfl _ _ p e ha hc hk s m args below hf hA hF happ hP
  obtain ⟨hcalls, hrest, hpre⟩ := hP
  obtain ⟨-, -, -, hnamed, -, -, -, hat⟩ := (Spec.applies_iff hf).mp happ
  obtain ⟨hg, hn⟩ := and_e (Cond.before_iff.mp (show (Jvm.Cond.and given_1 narrow_1).before args s = true from hpre))
  obtain ⟨gc, r0⟩ := and_e hg
  obtain ⟨g0, r1⟩ := and_e r0
  obtain ⟨g1, r2⟩ := and_e r1
  obtain ⟨g2, r3⟩ := and_e r2
  obtain ⟨g3, r4⟩ := and_e r3
  obtain ⟨g4, r5⟩ := and_e r4
  obtain ⟨w0, w1, w2, w3, w4, w5, rfl⟩ : ∃ w0 w1 w2 w3 w4 w5 : Value, args = #[w0, w1, w2, w3, w4, w5] := by
    have hs : args.size = 6 := by simpa [Cond.value, given_1] using gc
    obtain ⟨L⟩ := args
    match L, hs with
    | [w0, w1, w2, w3, w4, w5], _ => exact ⟨w0, w1, w2, w3, w4, w5, rfl⟩
  have hw : Tb tables_1 #[w0, w1, w2, w3, w4, w5] s := fun d (hd : d ∈ tables_1) => atoms_spec (ws := Jvm.Cond.code x code maxLocals ret :: tables_1) hat d (List.mem_cons_of_mem _ hd)
  obtain ⟨i0, ei0⟩ := isL_v g0
  obtain rfl : w0 = (.long i0) := Option.some.inj ei0
  obtain ⟨i1, ei1⟩ := isL_v g1
  obtain rfl : w1 = (.long i1) := Option.some.inj ei1
  obtain ⟨i2, ei2⟩ := isL_v g2
  obtain rfl : w2 = (.long i2) := Option.some.inj ei2
  obtain ⟨i3, ei3⟩ := is_v g3
  obtain rfl : w3 = (.int i3) := Option.some.inj ei3
  obtain ⟨i4, ei4⟩ := is_v g4
  obtain rfl : w4 = (.int i4) := Option.some.inj ei4
  obtain ⟨i5, ei5⟩ := is_v r5
  obtain rfl : w5 = (.int i5) := Option.some.inj ei5
  obtain ⟨n, o, h1, h2, h3, _, L, rfl, ⟨rfl, N⟩, hq⟩ := con_L l s _ hw i0 i1 i2 i3 i4 i5 s.heap s.heap.size (Nat.le_refl _) tables_1 p e ha hc hk s m _ below hf ((Spec.applies_iff_loose hf).mp happ).1 ⟨rfl, State.Warmed39.refl s, rfl⟩ trivial
  refine ⟨n, _, h1, h2, h3, hpost _ _ _ _ _ _ ⟨Cond.after_iff.mpr rfl, Cond.after_iff.mpr (eq_i res_at (Term.int_eval (1)) rfl), trivial⟩ ⟨hq.1, hq.2.1, (hq.2.2.sift fun y hy => Or.inr (N y hy)).mono (by decide) (by decide)⟩⟩
theorem main_1_1 : Claimed_1_1 := comes_1 fun _ _ _ _ _ _ h hF => ⟨h.1, hF⟩
theorem main_1_2 : Claimed_1_2 := comes_1 fun _ _ _ _ _ _ h hF => ⟨h.2.1, hF⟩
end Jvm.Pilot.@@N@@
namespace Jvm.Pilot.@@N@@
open Jvm Jvm.ClassFile Sem Op Lib Jvm.Free Jvm.Stand Jvm.Pilot.@@N@@.Jvm.D
/-! MADE BY PROGRAM (witnessworld.py) out of the Statement's table words and the real class files: 9 classes; the members and pool entries that the words name. The judged class is class 1, her method 1. -/
namespace start1
open Jvm.ClassFile
def u (s : String) : CpInfo := .utf8 (stringToUtf16 s)
/-- a pool by its gaps: so many unusable entries, then the entry; so many at the end -/
def gap : Nat → List CpInfo → List CpInfo
  | 0, r => r
  | n + 1, r => .unusable :: gap n r
def poolList (es : List (Nat × CpInfo)) (last : Nat) : List CpInfo := es.foldr (fun e r => gap e.1 (e.2 :: r)) (gap last [])
def pool (es : List (Nat × CpInfo)) (last : Nat) : Array CpInfo := ⟨poolList es last⟩
def fileOf (pool : Array CpInfo) (this : Nat) (attrs : Array Attribute := #[]) (ms : Array MethodInfo := #[]) (fl : Nat := 33) (sup : Nat := 0) (ifs : Array Nat := #[]) (fds : Array FieldInfo := #[]) : ClassFile where
  minorVersion := 0
  majorVersion := 65
  constantPool := pool
  accessFlags := fl
  thisClass := this
  superClass := sup
  interfaces := ifs
  fields := fds
  methods := ms
  attributes := attrs
def plain (name : String) (sup : Option ClassId) : Class where
  name := name
  kind := .ordinary
  loader := none
  accessFlags := 33
  super := sup
  interfaces := #[]
  cf := none
  fields := #[]
  methods := #[]
  instanceTypes := #[]
  staticTypes := #[]
  resolved := #[]
  callSites := []
  init := .initialized
  statics := none
  mirror := none

def pool0 : Array CpInfo := pool [(5, u "<init>"), (0, u "()V"), (1, .class_ 10), (1, u "java/lang/Object")] 113

def k0m0 : Method := { name := "<init>", desc := "()V", sig := { parameters := [], returnType := none }, accessFlags := 1, code := none }
/-- java/lang/Object -/
def k0 : Class := { plain "java/lang/Object" none with
  accessFlags := 33
  interfaces := #[]
  cf := some (fileOf pool0 8 #[] #[{ accessFlags := 1, nameIndex := 5, descriptorIndex := 6, attributes := #[] }] 33 0 #[] #[])
  fields := #[]
  methods := #[k0m0]
  instanceTypes := #[]
  staticTypes := #[]
  resolved := Array.replicate 124 none
  statics := none }

def pool1 : Array CpInfo := pool [(2, .class_ 4), (1, u "java/lang/Object"), (0, u "<init>"), (0, u "()V"), (0, .methodref 8 9), (0, .class_ 10), (0, .nameAndType 11 12), (0, u (site_224.cls)), (0, u "equal"), (0, u "([I[I)Z"), (0, .class_ 14), (0, u (x.cls)), (2, u "law"), (0, u "(JJJIII)Z")] 5

def k1m0 : Method := { name := "<init>", desc := "()V", sig := { parameters := [], returnType := none }, accessFlags := 2, code := none }
def k1c1 : Code := { maxStack := 6, maxLocals := 14, code := code, exceptionTable := #[], attributes := #[] }
def k1m1 : Method := { name := "law", desc := "(JJJIII)Z", sig := { parameters := [.long, .long, .long, .int, .int, .int], returnType := some .boolean }, accessFlags := 9, code := some k1c1 }
def k1 : Class := { plain (x.cls) (some 0) with
  accessFlags := 49
  interfaces := #[]
  cf := some (fileOf pool1 13 #[] #[{ accessFlags := 2, nameIndex := 5, descriptorIndex := 6, attributes := #[] }, { accessFlags := 9, nameIndex := 17, descriptorIndex := 18, attributes := #[] }] 49 2 #[] #[])
  fields := #[]
  methods := #[k1m0, k1m1]
  instanceTypes := #[]
  staticTypes := #[]
  resolved := Array.replicate 24 none
  statics := none }

def pool2 : Array CpInfo := pool [(2, .class_ 4), (1, u "java/lang/Object"), (0, u "<init>"), (0, u "()V"), (0, .class_ 8), (0, u (site_224.cls)), (26, u "P_WORDS"), (0, u "[I"), (3, u "([I[I)Z"), (9, u "ZERO"), (15, u "Ljava/math/BigInteger;"), (12, u "P"), (4, u "WORDS"), (0, u "I"), (2, u "MASK"), (0, u "J"), (8, u "equal")] 8

def k2m0 : Method := { name := "<init>", desc := "()V", sig := { parameters := [], returnType := none }, accessFlags := 2, code := none }
def k2c1 : Code := { maxStack := 4, maxLocals := 4, code := prog_57_method_5_code, exceptionTable := #[], attributes := #[] }
def k2m1 : Method := { name := "equal", desc := "([I[I)Z", sig := { parameters := [(.array .int), (.array .int)], returnType := some .boolean }, accessFlags := 8, code := some k2c1 }
def k2 : Class := { plain (site_224.cls) (some 0) with
  accessFlags := 48
  interfaces := #[]
  cf := some (fileOf pool2 7 #[] #[{ accessFlags := 2, nameIndex := 5, descriptorIndex := 6, attributes := #[] }, { accessFlags := 8, nameIndex := 98, descriptorIndex := 40, attributes := #[] }] 48 2 #[] #[{ accessFlags := 24, nameIndex := 84, descriptorIndex := 85, attributes := #[] }, { accessFlags := 24, nameIndex := 79, descriptorIndex := 66, attributes := #[] }, { accessFlags := 26, nameIndex := 88, descriptorIndex := 89, attributes := #[] }, { accessFlags := 26, nameIndex := 35, descriptorIndex := 36, attributes := #[] }, { accessFlags := 26, nameIndex := 50, descriptorIndex := 36, attributes := #[] }])
  fields := #[{ name := "WORDS", type := .int, accessFlags := 24, slot := 0, constantValue := 0 }, { name := "P", type := (.object "java/math/BigInteger"), accessFlags := 24, slot := 1, constantValue := 0 }, { name := "MASK", type := .long, accessFlags := 26, slot := 2, constantValue := 0 }, { name := "P_WORDS", type := (.array .int), accessFlags := 26, slot := 3, constantValue := 0 }, { name := "ZERO", type := (.array .int), accessFlags := 26, slot := 4, constantValue := 0 }]
  methods := #[k2m0, k2m1]
  instanceTypes := #[]
  staticTypes := #[.int, (.object "java/math/BigInteger"), .long, (.array .int), (.array .int)]
  resolved := Array.replicate 107 none
  statics := none }

def pool3 : Array CpInfo := pool [(1, u "java/lang/Cloneable"), (0, .class_ 1), (0, u "java/lang/Object"), (0, .class_ 3)] 3

/-- java/lang/Cloneable -/
def k3 : Class := { plain "java/lang/Cloneable" (some 0) with
  accessFlags := 1537
  interfaces := #[]
  cf := some (fileOf pool3 2 #[] #[] 1537 4 #[] #[])
  fields := #[]
  methods := #[]
  instanceTypes := #[]
  staticTypes := #[]
  resolved := Array.replicate 8 none
  statics := none }

def pool4 : Array CpInfo := pool [(1, u "java/io/Serializable"), (0, .class_ 1), (0, u "java/lang/Object"), (0, .class_ 3)] 3

/-- java/io/Serializable -/
def k4 : Class := { plain "java/io/Serializable" (some 0) with
  accessFlags := 1537
  interfaces := #[]
  cf := some (fileOf pool4 2 #[] #[] 1537 4 #[] #[])
  fields := #[]
  methods := #[]
  instanceTypes := #[]
  staticTypes := #[]
  resolved := Array.replicate 8 none
  statics := none }

/-- the primitive byte -/
def k5 : Class := { plain "byte" none with kind := .primitive 'B', accessFlags := 0x411 }
/-- [B -/
def k6 : Class := { plain "[B" (some 0) with kind := .array 5 .byte, interfaces := #[3, 4], accessFlags := 1041 }

/-- the primitive int -/
def k7 : Class := { plain "int" none with kind := .primitive 'I', accessFlags := 0x411 }
/-- [I -/
def k8 : Class := { plain "[I" (some 0) with kind := .array 7 .int, interfaces := #[3, 4], accessFlags := 1041 }

def heap : Heap := #[]
def classes : Array Class := #[k0, k1, k2, k3, k4, k5, k6, k7, k8]
def interned : List (Array UInt16 × Addr) := []
def slotsUsed : Nat := 0
def theMethod : MethodId := ⟨1, 1⟩
def args0 : Array Value := #[.long 5, .long 6, .long 7, .int 8, .int 9, .int 10]
def aboutOver (below : List Frame) : State where
  vm := { classes := classes, interned := interned.toArray }
  heap := heap
  slotsUsed := slotsUsed
  threads := #[{ frames := .invoking theMethod args0 :: below }]
def below0 : List Frame := [.native { method := ⟨0, 0⟩, args := #[] }]
def about1 : State := aboutOver below0
def p0 : Program := .bare "" "" ""
def e0 : Env := launch0.env 0 0 0
theorem w_frames : about1.frames = Frame.invoking theMethod args0 :: below0 := rfl
set_option maxRecDepth 65536 in
theorem w_args : argsFit about1.vm theMethod args0 = true := by decide +kernel
set_option maxRecDepth 65536 in
theorem w_heap : heapFits about1 = true := by decide +kernel
set_option maxRecDepth 65536 in
theorem w_runnable : about1.curStatus? = some .runnable := by decide +kernel
set_option maxRecDepth 65536 in
theorem w_alone : about1.alone = true := by decide +kernel
set_option maxRecDepth 65536 in
theorem w_named : about1.methodNamed? x = some theMethod := by decide +kernel
set_option maxRecDepth 65536 in
theorem w_hears : about1.hears theMethod below0 = true := by decide +kernel
set_option maxRecDepth 65536 in
theorem w_ripe : about1.ripe theMethod args0 below0 = true := by decide +kernel
theorem w_running : about1.status = .running := rfl
set_option maxRecDepth 65536 in
theorem w_room : about1.hasRoom e0.platform room_1 = true :=
  launch0.hasRoom_least _ room_1 (by decide +kernel) (by decide +kernel) (by decide +kernel) (by decide +kernel) (by decide +kernel) (by decide +kernel)
theorem allAtoms_all (ts : List Jvm.Cond) (a : Array Jvm.Value) (st : Jvm.State) : (allAtoms ts).before a st = ts.all (fun c => c.before a st) := by
  induction ts with
  | nil => rfl
  | cons c t ih =>
    show (Jvm.Cond.and c (allAtoms t)).before a st = _
    rw [Jvm.Cond.before_and, ih, List.all_cons]
def words1 : List Jvm.Cond := Jvm.Cond.code x code maxLocals ret :: tables_1
/-- a 'code' word, met by the world's own term for the bytes: nothing is compared byte by byte -/
theorem code_word {y : MethodName} {bytes : ByteArray} {mx : Nat} {rt : Option FieldType} {a : Array Value} {s : State} {m : MethodId} {meth : Method} {c : Code} (h1 : s.methodNamed? y = some m) (h2 : s.vm.method? m = some meth) (h3 : meth.code = some c) (h4 : c.code = bytes)
    (h5 : (c.maxLocals == mx && c.exceptionTable.isEmpty && decide (c.maxStack ≤ mostOperands) && decide (meth.sig.returnType = rt) && !meth.locks && decide (parseMethodDescriptor y.desc = some meth.sig)) = true) : (Jvm.Cond.code y bytes mx rt).before a s = true := by
  simp only [Bool.and_eq_true, beq_iff_eq, Bool.not_eq_true', decide_eq_true_eq] at h5
  obtain ⟨⟨⟨⟨⟨g1, g2⟩, g3⟩, g4⟩, g5⟩, g6⟩ := h5
  simp [Cond.before, Cond.holds, Cond.value, h1, h2, h3, h4, g1, g2, g3, g4, g5, g6]
def isCode : Jvm.Cond → Bool
  | .code _ _ _ _ => true
  | _ => false
theorem all_split {L : List Jvm.Cond} {P : Jvm.Cond → Bool} (h1 : L.all (fun c => isCode c || P c) = true) (h2 : ∀ c ∈ L.filter isCode, P c = true) : L.all P = true := by
  refine List.all_eq_true.mpr fun c hc => ?_
  have h := List.all_eq_true.mp h1 c hc
  rcases Bool.eq_false_or_eq_true (isCode c) with hi | hi
  · exact h2 c (List.mem_filter.mpr ⟨hc, hi⟩)
  · simpa [hi] using h
set_option maxRecDepth 65536 in
theorem w_c0 : (Jvm.Cond.code x code maxLocals ret).before args0 about1 = true := code_word (m := ⟨1, 1⟩) (meth := k1m1) (c := k1c1) (by decide +kernel) rfl rfl rfl (by decide +kernel)
set_option maxRecDepth 65536 in
theorem w_c1 : (Jvm.Cond.code site_224 prog_57_method_5_code (4 : Nat) (Option.some Jvm.ClassFile.FieldType.boolean)).before args0 about1 = true := code_word (m := ⟨2, 1⟩) (meth := k2m1) (c := k2c1) (by decide +kernel) rfl rfl rfl (by decide +kernel)
def codes1 : List Jvm.Cond := [Jvm.Cond.code x code maxLocals ret, Jvm.Cond.code site_224 prog_57_method_5_code (4 : Nat) (Option.some Jvm.ClassFile.FieldType.boolean)]
set_option maxRecDepth 65536 in
theorem codes_eq : words1.filter isCode = codes1 := rfl
theorem w_codes : ∀ c ∈ words1.filter isCode, c.before args0 about1 = true := by
  rw [codes_eq]
  intro c hc
  simp only [codes1, List.mem_cons, List.not_mem_nil, or_false] at hc
  rcases hc with rfl | rfl
  · exact w_c0
  · exact w_c1
set_option maxRecDepth 65536 in
theorem w_t1 : words1.all (fun c => isCode c || c.before args0 about1) = true := by decide +kernel
theorem w_tables : (allAtoms (Jvm.Cond.code x code maxLocals ret :: tables_1)).before args0 about1 = true := by
  rw [allAtoms_all]
  show words1.all (fun c => c.before args0 about1) = true
  refine all_split ?_ w_codes
  rw [w_t1]
set_option maxRecDepth 65536 in
theorem w_case : (Jvm.Cond.and given_1 narrow_1).before args0 about1 = true := by decide +kernel
theorem w_applies : (headSpec (Jvm.Cond.code x code maxLocals ret :: tables_1) room_1).applies x e0.platform about1 = true :=
  (Spec.applies_iff w_frames).mpr ⟨w_running, w_runnable, w_alone, w_named, w_hears, w_ripe, w_room, w_tables⟩
theorem atStart : AtStart classFile x code maxLocals ret World_1 tables_1 room_1 Calls_1 rest_1 Pre_1 launch0 p0 e0 about1 theMethod args0 below0 :=
  ⟨lists_1, trivial, launch0.admits_env _ _ _, launch0.least_env, fairChoices_fair.cas, fairChoices_fair.clock, w_frames, w_args, w_heap, w_applies, trivial, trivial, w_case⟩
end start1
theorem witness_1 : WitnessClaimed_1 := ⟨start1.p0, start1.e0, start1.about1, start1.theMethod, start1.args0, start1.below0, start1.atStart⟩
end Jvm.Pilot.@@N@@

import JvmDerived
import JvmDerived.Pilot.@@N@@Statement
import JvmDerived.Pilot.@@N@@Code
set_option linter.unusedVariables false
set_option linter.unusedSimpArgs false
namespace Jvm.RoadKit
open Sem ClassFile Op Lib Jvm.Stand Jvm.Free Jvm.LawKit
section New
variable {p : Program} {l : Launch} {e : Env} {R : Room} {s : State} {m : MethodId} {args : Array Value} {below : List Frame} {meth : Method} {c : Code} {T : State} {locs : List Loc} {cells slots : Nat}
theorem retI (X : Stand p l e R s m args below meth c T locs cells slots) (hx : p.tables.exec = Jvm.exec) {pc : Nat} {Ls : Array Slot} {z : Int32} {rest : List Value} (hret : meth.sig.returnType = some .int) (hd : decode c.code pc = .ok (.ireturn, 1)) {fs : List Frame}
    (hl : ∀ (f : JFrame) (acts : List Action), f.method = m → f.locked = none → f.entered = [] → (doReturn e (T.setTop f) acts (some (.int z))).1 = T.setFrames fs) : Steps p.tables e below (T.setTop (mkF m pc Ls (.int z :: rest))) (T.setFrames fs) := by
  have hm' : T.vm.method? m = some meth := X.method'
  have hn : narrow .int (.int z) = .int z := rfl
  show Steps p.tables e below (T.setTop { method := m, pc := pc, locals := Ls, stack := _ :: rest, locked := none }) _
  jvm_step X.here [X.here.top, hx, hd, hm', hret, hn]
  first | (intro acts; rw [hl _ acts rfl rfl rfl]) | rw [hl _ _ rfl rfl rfl]
  exact Steps.refl _
end New
end Jvm.RoadKit
namespace Jvm.Own
open Sem ClassFile Op Lib Jvm.Stand Jvm.Free Jvm.LawKit Jvm.RoadKit
/-- the constants of one body's walk -/
abbrev KT := Program × Launch × Env × Room × State × MethodId × Array Value × List Frame × Method × Code × State × Nat
abbrev KT.p (K : KT) : Program := K.1
abbrev KT.l (K : KT) : Launch := K.2.1
abbrev KT.e (K : KT) : Env := K.2.2.1
abbrev KT.R (K : KT) : Room := K.2.2.2.1
abbrev KT.s (K : KT) : State := K.2.2.2.2.1
abbrev KT.m (K : KT) : MethodId := K.2.2.2.2.2.1
abbrev KT.args (K : KT) : Array Value := K.2.2.2.2.2.2.1
abbrev KT.below (K : KT) : List Frame := K.2.2.2.2.2.2.2.1
abbrev KT.meth (K : KT) : Method := K.2.2.2.2.2.2.2.2.1
abbrev KT.c (K : KT) : Code := K.2.2.2.2.2.2.2.2.2.1
abbrev KT.Z (K : KT) : State := K.2.2.2.2.2.2.2.2.2.2.1
abbrev KT.n0 (K : KT) : Nat := K.2.2.2.2.2.2.2.2.2.2.2
/-- what is known of the body -/
def Cx (K : KT) (y : MethodName) (bytes : ByteArray) (mx : Nat) (rt : Option FieldType) (R : Room) : Prop :=
  K.p.tables.exec = Jvm.exec ∧ K.Z.Warmed39 K.s.vm ∧ K.c.code = bytes ∧ K.c.maxLocals = mx ∧ K.s.vm.findClass y.cls = some K.m.cls ∧ K.meth.sig.returnType = rt ∧ K.meth.locks = false ∧ K.R = R ∧ K.meth.name = y.name
/-- where the walk stands: heap h, so many cells and slots made; nothing old written -/
def Sd (K : KT) (T : State) (h : Heap) (cl sl : Nat) : Prop := ∃ locs, Stand K.p K.l K.e K.R K.s K.m K.args K.below K.meth K.c T locs cl sl ∧ Fr K.n0 locs ∧ K.n0 ≤ h.size ∧ T.heap = h
/-- from here the body comes to its end, and Q holds of what it returns and of the heap then -/
def Run (K : KT) (Q : Option Value → Heap → Prop) (T : State) (g : JFrame) : Prop :=
  ∃ s₂ v L, Steps K.p.tables K.e K.below (T.setTop g) s₂ ∧ s₂.status = .running ∧ Ended s₂ K.below (.returned v) ∧ Q v s₂.heap ∧ Fr K.n0 L ∧ FrameEnd K.s (.returned v) s₂ L K.R.cells K.R.slots
theorem Run.st {K : KT} {Q : Option Value → Heap → Prop} {T T' : State} {g g' : JFrame} (st : ∀ t, Steps K.p.tables K.e K.below (T'.setTop g') t → Steps K.p.tables K.e K.below (T.setTop g) t) (k : Run K Q T' g') : Run K Q T g := by
  obtain ⟨s₂, v, L, h1, h2⟩ := k
  exact ⟨s₂, v, L, st _ h1, h2⟩
theorem Run.cast {K : KT} {Q : Option Value → Heap → Prop} {T : State} {g g' : JFrame} (q : g = g') (k : Run K Q T g') : Run K Q T g := q ▸ k
theorem Run.mono {K : KT} {Q Q' : Option Value → Heap → Prop} {T : State} {g : JFrame} (k : Run K Q T g) (q : ∀ v h, Q v h → Q' v h) : Run K Q' T g := by
  obtain ⟨s₂, v, L, h1, h2, h3, h4, h5⟩ := k
  exact ⟨s₂, v, L, h1, h2, h3, q _ _ h4, h5⟩
/-- the words of a sheet -/
def Tb (ws : List Jvm.Cond) (a0 : Array Value) (Z : State) : Prop := ∀ d ∈ ws, d.before a0 Z = true
theorem Tb.get {ws : List Jvm.Cond} {a0 : Array Value} {Z : State} (hw : Tb ws a0 Z) (i : Nat) {d : Jvm.Cond} (h : ws[i]? = some d) : d.before a0 Z = true := hw d (List.mem_of_getElem? h)
/-- an instruction, its length, the pc behind -/
def Dc (bytes : ByteArray) (pc : Nat) (i : Instr) (n pc' : Nat) : Prop := decode bytes pc = .ok (i, n) ∧ pc + n = pc'
/-- a branch: the pc behind, the pc that it goes to -/
def Db (bytes : ByteArray) (pc : Nat) (i : Instr) (o : Int) (pc' pt : Nat) : Prop := decode bytes pc = .ok (i, 3) ∧ pc + 3 = pc' ∧ 0 ≤ (pc : Int) + o ∧ ((pc : Int) + o).toNat = pt
theorem ne_new {a b : Addr} {h : Heap} (ea : a = h.size) (q : b < h.size) : a ≠ b := by subst ea; exact Nat.ne_of_gt q
theorem fr_new {h0 h : Heap} {a : Addr} (ea : a = h.size) (q : h0.size ≤ h.size) : h0.size ≤ a := ea ▸ q
theorem leb {a b : Nat} (h : Nat.ble a b = true) : a ≤ b := Nat.le_of_ble_eq_true h
theorem ltb {a b : Nat} (h : Nat.ble (a + 1) b = true) : a < b := Nat.le_of_ble_eq_true h
section Rules
variable {K : KT} {Q : Option Value → Heap → Prop} {T : State} {h : Heap} {cl sl : Nat} {y : MethodName} {bytes : ByteArray} {mx : Nat} {rt : Option FieldType} {R : Room} {pc pc' pt : Nat} {L : Array Slot} {S : List Value}
theorem r_top {v v' : Int32} (q : v = v') (k : Run K Q T (mkF K.m pc L (.int v' :: S))) : Run K Q T (mkF K.m pc L (.int v :: S)) := q ▸ k
theorem r_topL {v v' : Int64} (q : v = v') (k : Run K Q T (mkF K.m pc L (.long v' :: S))) : Run K Q T (mkF K.m pc L (.long v :: S)) := q ▸ k
theorem Sd.ge (X : Sd K T h cl sl) : K.n0 ≤ h.size := by obtain ⟨_, _, _, q, _⟩ := X; exact q
theorem r_iloadN {i : Fin 4} {v : Int32} (X : Sd K T h cl sl) (cx : Cx K y bytes mx rt R) (hd : Dc bytes pc (.iload_n i) 1 pc') (hl : L[i.val]? = some (.val (.int v))) (k : Run K Q T (mkF K.m pc' L (.int v :: S))) : Run K Q T (mkF K.m pc L (S)) := by
  obtain ⟨locs, X0, -⟩ := X; obtain ⟨hx, -, hby, -⟩ := cx; obtain ⟨d, rfl⟩ := hd
  exact Run.st (fun t q => XS.iloadN X0.here hx rfl (hb hby d) hl q) k
theorem r_iload {i : Nat} {v : Int32} (X : Sd K T h cl sl) (cx : Cx K y bytes mx rt R) (hd : Dc bytes pc (.iload i) 2 pc') (hl : L[i]? = some (.val (.int v))) (k : Run K Q T (mkF K.m pc' L (.int v :: S))) : Run K Q T (mkF K.m pc L (S)) := by
  obtain ⟨locs, X0, -⟩ := X; obtain ⟨hx, -, hby, -⟩ := cx; obtain ⟨d, rfl⟩ := hd
  exact Run.st (fun t q => XS.iload X0.here hx rfl (hb hby d) hl q) k
theorem r_lloadN {i : Fin 4} {v : Int64} (X : Sd K T h cl sl) (cx : Cx K y bytes mx rt R) (hd : Dc bytes pc (.lload_n i) 1 pc') (hl : L[i.val]? = some (.val (.long v))) (k : Run K Q T (mkF K.m pc' L (.long v :: S))) : Run K Q T (mkF K.m pc L (S)) := by
  obtain ⟨locs, X0, -⟩ := X; obtain ⟨hx, -, hby, -⟩ := cx; obtain ⟨d, rfl⟩ := hd
  exact Run.st (fun t q => XT.lloadN X0.here hx rfl (hb hby d) hl q) k
theorem r_lload {i : Nat} {v : Int64} (X : Sd K T h cl sl) (cx : Cx K y bytes mx rt R) (hd : Dc bytes pc (.lload i) 2 pc') (hl : L[i]? = some (.val (.long v))) (k : Run K Q T (mkF K.m pc' L (.long v :: S))) : Run K Q T (mkF K.m pc L (S)) := by
  obtain ⟨locs, X0, -⟩ := X; obtain ⟨hx, -, hby, -⟩ := cx; obtain ⟨d, rfl⟩ := hd
  exact Run.st (fun t q => XT.lload X0.here hx rfl (hb hby d) hl q) k
theorem r_aloadN {i : Fin 4} {v : Addr} (X : Sd K T h cl sl) (cx : Cx K y bytes mx rt R) (hd : Dc bytes pc (.aload_n i) 1 pc') (hl : L[i.val]? = some (.val (.ref v))) (k : Run K Q T (mkF K.m pc' L (.ref v :: S))) : Run K Q T (mkF K.m pc L (S)) := by
  obtain ⟨locs, X0, -⟩ := X; obtain ⟨hx, -, hby, -⟩ := cx; obtain ⟨d, rfl⟩ := hd
  exact Run.st (fun t q => XS.aloadN X0.here hx rfl (hb hby d) hl rfl q) k
theorem r_aload {i : Nat} {v : Addr} (X : Sd K T h cl sl) (cx : Cx K y bytes mx rt R) (hd : Dc bytes pc (.aload i) 2 pc') (hl : L[i]? = some (.val (.ref v))) (k : Run K Q T (mkF K.m pc' L (.ref v :: S))) : Run K Q T (mkF K.m pc L (S)) := by
  obtain ⟨locs, X0, -⟩ := X; obtain ⟨hx, -, hby, -⟩ := cx; obtain ⟨d, rfl⟩ := hd
  exact Run.st (fun t q => XS.aload X0.here hx rfl (hb hby d) hl rfl q) k
theorem r_iconst {i : Int} (v : Int32) (X : Sd K T h cl sl) (cx : Cx K y bytes mx rt R) (hd : Dc bytes pc (.iconst i) 1 pc') (hv : Int32.ofInt i = v) (k : Run K Q T (mkF K.m pc' L (.int v :: S))) : Run K Q T (mkF K.m pc L (S)) := by
  obtain ⟨locs, X0, -⟩ := X; obtain ⟨hx, -, hby, -⟩ := cx; obtain ⟨d, rfl⟩ := hd
  exact Run.st (fun t q => XT.iconstV X0.here hx rfl v (hb hby d) hv q) k
theorem r_bipush {i : Int} (v : Int32) (X : Sd K T h cl sl) (cx : Cx K y bytes mx rt R) (hd : Dc bytes pc (.bipush i) 2 pc') (hv : (Int8.ofInt i).toInt32 = v) (k : Run K Q T (mkF K.m pc' L (.int v :: S))) : Run K Q T (mkF K.m pc L (S)) := by
  obtain ⟨locs, X0, -⟩ := X; obtain ⟨hx, -, hby, -⟩ := cx; obtain ⟨d, rfl⟩ := hd
  exact Run.st (fun t q => XT.bipushV X0.here hx rfl v (hb hby d) hv q) k
theorem r_sipush {i : Int} (v : Int32) (X : Sd K T h cl sl) (cx : Cx K y bytes mx rt R) (hd : Dc bytes pc (.sipush i) 3 pc') (hv : (Int16.ofInt i).toInt32 = v) (k : Run K Q T (mkF K.m pc' L (.int v :: S))) : Run K Q T (mkF K.m pc L (S)) := by
  obtain ⟨locs, X0, -⟩ := X; obtain ⟨hx, -, hby, -⟩ := cx; obtain ⟨d, rfl⟩ := hd
  exact Run.st (fun t q => XT.sipushV X0.here hx rfl v (hb hby d) hv q) k
theorem r_lconst {i : Fin 2} (v : Int64) (X : Sd K T h cl sl) (cx : Cx K y bytes mx rt R) (hd : Dc bytes pc (.lconst i) 1 pc') (hv : Int64.ofNat i = v) (k : Run K Q T (mkF K.m pc' L (.long v :: S))) : Run K Q T (mkF K.m pc L (S)) := by
  obtain ⟨locs, X0, -⟩ := X; obtain ⟨hx, -, hby, -⟩ := cx; obtain ⟨d, rfl⟩ := hd
  exact Run.st (fun t q => XT.lconstV X0.here hx rfl v (hb hby d) hv q) k
theorem r_iadd {a b : Int32} (X : Sd K T h cl sl) (cx : Cx K y bytes mx rt R) (hd : Dc bytes pc .iadd 1 pc') (k : Run K Q T (mkF K.m pc' L (.int (a + b) :: S))) : Run K Q T (mkF K.m pc L (.int b :: .int a :: S)) := by
  obtain ⟨locs, X0, -⟩ := X; obtain ⟨hx, -, hby, -⟩ := cx; obtain ⟨d, rfl⟩ := hd
  exact Run.st (fun t q => XS.iadd X0.here hx rfl (hb hby d) rfl q) k
theorem r_isub {a b : Int32} (X : Sd K T h cl sl) (cx : Cx K y bytes mx rt R) (hd : Dc bytes pc .isub 1 pc') (k : Run K Q T (mkF K.m pc' L (.int (a - b) :: S))) : Run K Q T (mkF K.m pc L (.int b :: .int a :: S)) := by
  obtain ⟨locs, X0, -⟩ := X; obtain ⟨hx, -, hby, -⟩ := cx; obtain ⟨d, rfl⟩ := hd
  exact Run.st (fun t q => XS.isub X0.here hx rfl (hb hby d) rfl q) k
theorem r_imul {a b : Int32} (X : Sd K T h cl sl) (cx : Cx K y bytes mx rt R) (hd : Dc bytes pc .imul 1 pc') (k : Run K Q T (mkF K.m pc' L (.int (a * b) :: S))) : Run K Q T (mkF K.m pc L (.int b :: .int a :: S)) := by
  obtain ⟨locs, X0, -⟩ := X; obtain ⟨hx, -, hby, -⟩ := cx; obtain ⟨d, rfl⟩ := hd
  exact Run.st (fun t q => XS.imul X0.here hx rfl (hb hby d) rfl q) k
theorem r_iand {a b : Int32} (X : Sd K T h cl sl) (cx : Cx K y bytes mx rt R) (hd : Dc bytes pc .iand 1 pc') (k : Run K Q T (mkF K.m pc' L (.int (a &&& b) :: S))) : Run K Q T (mkF K.m pc L (.int b :: .int a :: S)) := by
  obtain ⟨locs, X0, -⟩ := X; obtain ⟨hx, -, hby, -⟩ := cx; obtain ⟨d, rfl⟩ := hd
  exact Run.st (fun t q => XS.iand X0.here hx rfl (hb hby d) rfl q) k
theorem r_ior {a b : Int32} (X : Sd K T h cl sl) (cx : Cx K y bytes mx rt R) (hd : Dc bytes pc .ior 1 pc') (k : Run K Q T (mkF K.m pc' L (.int (a ||| b) :: S))) : Run K Q T (mkF K.m pc L (.int b :: .int a :: S)) := by
  obtain ⟨locs, X0, -⟩ := X; obtain ⟨hx, -, hby, -⟩ := cx; obtain ⟨d, rfl⟩ := hd
  exact Run.st (fun t q => XT.ior X0.here hx rfl (hb hby d) rfl q) k
theorem r_ixor {a b : Int32} (X : Sd K T h cl sl) (cx : Cx K y bytes mx rt R) (hd : Dc bytes pc .ixor 1 pc') (k : Run K Q T (mkF K.m pc' L (.int (a ^^^ b) :: S))) : Run K Q T (mkF K.m pc L (.int b :: .int a :: S)) := by
  obtain ⟨locs, X0, -⟩ := X; obtain ⟨hx, -, hby, -⟩ := cx; obtain ⟨d, rfl⟩ := hd
  exact Run.st (fun t q => XT.ixor X0.here hx rfl (hb hby d) rfl q) k
theorem r_ishl {a b : Int32} (X : Sd K T h cl sl) (cx : Cx K y bytes mx rt R) (hd : Dc bytes pc .ishl 1 pc') (k : Run K Q T (mkF K.m pc' L (.int (a <<< (b &&& 31)) :: S))) : Run K Q T (mkF K.m pc L (.int b :: .int a :: S)) := by
  obtain ⟨locs, X0, -⟩ := X; obtain ⟨hx, -, hby, -⟩ := cx; obtain ⟨d, rfl⟩ := hd
  exact Run.st (fun t q => XT.ishl X0.here hx rfl (hb hby d) rfl q) k
theorem r_ishr {a b : Int32} (X : Sd K T h cl sl) (cx : Cx K y bytes mx rt R) (hd : Dc bytes pc .ishr 1 pc') (k : Run K Q T (mkF K.m pc' L (.int (a >>> (b &&& 31)) :: S))) : Run K Q T (mkF K.m pc L (.int b :: .int a :: S)) := by
  obtain ⟨locs, X0, -⟩ := X; obtain ⟨hx, -, hby, -⟩ := cx; obtain ⟨d, rfl⟩ := hd
  exact Run.st (fun t q => XT.ishr X0.here hx rfl (hb hby d) rfl q) k
theorem r_iushr {a b : Int32} (X : Sd K T h cl sl) (cx : Cx K y bytes mx rt R) (hd : Dc bytes pc .iushr 1 pc') (k : Run K Q T (mkF K.m pc' L (.int (XT.ushr a b) :: S))) : Run K Q T (mkF K.m pc L (.int b :: .int a :: S)) := by
  obtain ⟨locs, X0, -⟩ := X; obtain ⟨hx, -, hby, -⟩ := cx; obtain ⟨d, rfl⟩ := hd
  exact Run.st (fun t q => XT.iushr X0.here hx rfl (hb hby d) rfl q) k
theorem r_idiv {a b : Int32} (X : Sd K T h cl sl) (cx : Cx K y bytes mx rt R) (hd : Dc bytes pc .idiv 1 pc') (hne : b ≠ 0) (k : Run K Q T (mkF K.m pc' L (.int (a / b) :: S))) : Run K Q T (mkF K.m pc L (.int b :: .int a :: S)) := by
  obtain ⟨locs, X0, -⟩ := X; obtain ⟨hx, -, hby, -⟩ := cx; obtain ⟨d, rfl⟩ := hd
  exact Run.st (fun t q => XS.idiv X0.here hx rfl (hb hby d) rfl hne q) k
theorem r_irem {a b : Int32} (X : Sd K T h cl sl) (cx : Cx K y bytes mx rt R) (hd : Dc bytes pc .irem 1 pc') (hne : b ≠ 0) (k : Run K Q T (mkF K.m pc' L (.int (a - (a / b) * b) :: S))) : Run K Q T (mkF K.m pc L (.int b :: .int a :: S)) := by
  obtain ⟨locs, X0, -⟩ := X; obtain ⟨hx, -, hby, -⟩ := cx; obtain ⟨d, rfl⟩ := hd
  exact Run.st (fun t q => XS.irem X0.here hx rfl (hb hby d) rfl hne q) k
theorem r_ladd {a b : Int64} (X : Sd K T h cl sl) (cx : Cx K y bytes mx rt R) (hd : Dc bytes pc .ladd 1 pc') (k : Run K Q T (mkF K.m pc' L (.long (a + b) :: S))) : Run K Q T (mkF K.m pc L (.long b :: .long a :: S)) := by
  obtain ⟨locs, X0, -⟩ := X; obtain ⟨hx, -, hby, -⟩ := cx; obtain ⟨d, rfl⟩ := hd
  exact Run.st (fun t q => XT.ladd X0.here hx rfl (hb hby d) rfl q) k
theorem r_lsub {a b : Int64} (X : Sd K T h cl sl) (cx : Cx K y bytes mx rt R) (hd : Dc bytes pc .lsub 1 pc') (k : Run K Q T (mkF K.m pc' L (.long (a - b) :: S))) : Run K Q T (mkF K.m pc L (.long b :: .long a :: S)) := by
  obtain ⟨locs, X0, -⟩ := X; obtain ⟨hx, -, hby, -⟩ := cx; obtain ⟨d, rfl⟩ := hd
  exact Run.st (fun t q => XT.lsub X0.here hx rfl (hb hby d) rfl q) k
theorem r_lmul {a b : Int64} (X : Sd K T h cl sl) (cx : Cx K y bytes mx rt R) (hd : Dc bytes pc .lmul 1 pc') (k : Run K Q T (mkF K.m pc' L (.long (a * b) :: S))) : Run K Q T (mkF K.m pc L (.long b :: .long a :: S)) := by
  obtain ⟨locs, X0, -⟩ := X; obtain ⟨hx, -, hby, -⟩ := cx; obtain ⟨d, rfl⟩ := hd
  exact Run.st (fun t q => XT.lmul X0.here hx rfl (hb hby d) rfl q) k
theorem r_land {a b : Int64} (X : Sd K T h cl sl) (cx : Cx K y bytes mx rt R) (hd : Dc bytes pc .land 1 pc') (k : Run K Q T (mkF K.m pc' L (.long (a &&& b) :: S))) : Run K Q T (mkF K.m pc L (.long b :: .long a :: S)) := by
  obtain ⟨locs, X0, -⟩ := X; obtain ⟨hx, -, hby, -⟩ := cx; obtain ⟨d, rfl⟩ := hd
  exact Run.st (fun t q => XT.land X0.here hx rfl (hb hby d) rfl q) k
theorem r_lor {a b : Int64} (X : Sd K T h cl sl) (cx : Cx K y bytes mx rt R) (hd : Dc bytes pc .lor 1 pc') (k : Run K Q T (mkF K.m pc' L (.long (a ||| b) :: S))) : Run K Q T (mkF K.m pc L (.long b :: .long a :: S)) := by
  obtain ⟨locs, X0, -⟩ := X; obtain ⟨hx, -, hby, -⟩ := cx; obtain ⟨d, rfl⟩ := hd
  exact Run.st (fun t q => XT.lor X0.here hx rfl (hb hby d) rfl q) k
theorem r_lxor {a b : Int64} (X : Sd K T h cl sl) (cx : Cx K y bytes mx rt R) (hd : Dc bytes pc .lxor 1 pc') (k : Run K Q T (mkF K.m pc' L (.long (a ^^^ b) :: S))) : Run K Q T (mkF K.m pc L (.long b :: .long a :: S)) := by
  obtain ⟨locs, X0, -⟩ := X; obtain ⟨hx, -, hby, -⟩ := cx; obtain ⟨d, rfl⟩ := hd
  exact Run.st (fun t q => XT.lxor X0.here hx rfl (hb hby d) rfl q) k
theorem r_ldiv {a b : Int64} (X : Sd K T h cl sl) (cx : Cx K y bytes mx rt R) (hd : Dc bytes pc .ldiv 1 pc') (hne : b ≠ 0) (k : Run K Q T (mkF K.m pc' L (.long (a / b) :: S))) : Run K Q T (mkF K.m pc L (.long b :: .long a :: S)) := by
  obtain ⟨locs, X0, -⟩ := X; obtain ⟨hx, -, hby, -⟩ := cx; obtain ⟨d, rfl⟩ := hd
  exact Run.st (fun t q => XT.ldiv X0.here hx rfl (hb hby d) rfl hne q) k
theorem r_lrem {a b : Int64} (X : Sd K T h cl sl) (cx : Cx K y bytes mx rt R) (hd : Dc bytes pc .lrem 1 pc') (hne : b ≠ 0) (k : Run K Q T (mkF K.m pc' L (.long (a - (a / b) * b) :: S))) : Run K Q T (mkF K.m pc L (.long b :: .long a :: S)) := by
  obtain ⟨locs, X0, -⟩ := X; obtain ⟨hx, -, hby, -⟩ := cx; obtain ⟨d, rfl⟩ := hd
  exact Run.st (fun t q => XT.lrem X0.here hx rfl (hb hby d) rfl hne q) k
theorem r_lshl {a : Int64} {b : Int32} (X : Sd K T h cl sl) (cx : Cx K y bytes mx rt R) (hd : Dc bytes pc .lshl 1 pc') (k : Run K Q T (mkF K.m pc' L (.long (a <<< (b.toInt64 &&& 63)) :: S))) : Run K Q T (mkF K.m pc L (.int b :: .long a :: S)) := by
  obtain ⟨locs, X0, -⟩ := X; obtain ⟨hx, -, hby, -⟩ := cx; obtain ⟨d, rfl⟩ := hd
  exact Run.st (fun t q => XT.lshl X0.here hx rfl (hb hby d) rfl q) k
theorem r_lshr {a : Int64} {b : Int32} (X : Sd K T h cl sl) (cx : Cx K y bytes mx rt R) (hd : Dc bytes pc .lshr 1 pc') (k : Run K Q T (mkF K.m pc' L (.long (a >>> (b.toInt64 &&& 63)) :: S))) : Run K Q T (mkF K.m pc L (.int b :: .long a :: S)) := by
  obtain ⟨locs, X0, -⟩ := X; obtain ⟨hx, -, hby, -⟩ := cx; obtain ⟨d, rfl⟩ := hd
  exact Run.st (fun t q => XT.lshr X0.here hx rfl (hb hby d) rfl q) k
theorem r_lushr {a : Int64} {b : Int32} (X : Sd K T h cl sl) (cx : Cx K y bytes mx rt R) (hd : Dc bytes pc .lushr 1 pc') (k : Run K Q T (mkF K.m pc' L (.long (XT.ushrL a b) :: S))) : Run K Q T (mkF K.m pc L (.int b :: .long a :: S)) := by
  obtain ⟨locs, X0, -⟩ := X; obtain ⟨hx, -, hby, -⟩ := cx; obtain ⟨d, rfl⟩ := hd
  exact Run.st (fun t q => XT.lushr X0.here hx rfl (hb hby d) rfl q) k
theorem r_ineg {a : Int32} (X : Sd K T h cl sl) (cx : Cx K y bytes mx rt R) (hd : Dc bytes pc .ineg 1 pc') (k : Run K Q T (mkF K.m pc' L (.int (-a) :: S))) : Run K Q T (mkF K.m pc L (.int a :: S)) := by
  obtain ⟨locs, X0, -⟩ := X; obtain ⟨hx, -, hby, -⟩ := cx; obtain ⟨d, rfl⟩ := hd
  exact Run.st (fun t q => XS.ineg X0.here hx rfl (hb hby d) rfl q) k
theorem r_i2l {a : Int32} (X : Sd K T h cl sl) (cx : Cx K y bytes mx rt R) (hd : Dc bytes pc .i2l 1 pc') (k : Run K Q T (mkF K.m pc' L (.long a.toInt64 :: S))) : Run K Q T (mkF K.m pc L (.int a :: S)) := by
  obtain ⟨locs, X0, -⟩ := X; obtain ⟨hx, -, hby, -⟩ := cx; obtain ⟨d, rfl⟩ := hd
  exact Run.st (fun t q => XT.i2l X0.here hx rfl (hb hby d) rfl q) k
theorem r_l2i {a : Int64} (X : Sd K T h cl sl) (cx : Cx K y bytes mx rt R) (hd : Dc bytes pc .l2i 1 pc') (k : Run K Q T (mkF K.m pc' L (.int a.toInt32 :: S))) : Run K Q T (mkF K.m pc L (.long a :: S)) := by
  obtain ⟨locs, X0, -⟩ := X; obtain ⟨hx, -, hby, -⟩ := cx; obtain ⟨d, rfl⟩ := hd
  exact Run.st (fun t q => XT.l2i X0.here hx rfl (hb hby d) rfl q) k
theorem r_i2b {a : Int32} (X : Sd K T h cl sl) (cx : Cx K y bytes mx rt R) (hd : Dc bytes pc .i2b 1 pc') (k : Run K Q T (mkF K.m pc' L (.int a.toInt8.toInt32 :: S))) : Run K Q T (mkF K.m pc L (.int a :: S)) := by
  obtain ⟨locs, X0, -⟩ := X; obtain ⟨hx, -, hby, -⟩ := cx; obtain ⟨d, rfl⟩ := hd
  exact Run.st (fun t q => XT.i2b X0.here hx rfl (hb hby d) rfl q) k
theorem r_i2s {a : Int32} (X : Sd K T h cl sl) (cx : Cx K y bytes mx rt R) (hd : Dc bytes pc .i2s 1 pc') (k : Run K Q T (mkF K.m pc' L (.int a.toInt16.toInt32 :: S))) : Run K Q T (mkF K.m pc L (.int a :: S)) := by
  obtain ⟨locs, X0, -⟩ := X; obtain ⟨hx, -, hby, -⟩ := cx; obtain ⟨d, rfl⟩ := hd
  exact Run.st (fun t q => XT.i2s X0.here hx rfl (hb hby d) rfl q) k
theorem r_lcmp {a b : Int64} (X : Sd K T h cl sl) (cx : Cx K y bytes mx rt R) (hd : Dc bytes pc .lcmp 1 pc') (k : Run K Q T (mkF K.m pc' L (.int (XT.cmpL a b) :: S))) : Run K Q T (mkF K.m pc L (.long b :: .long a :: S)) := by
  obtain ⟨locs, X0, -⟩ := X; obtain ⟨hx, -, hby, -⟩ := cx; obtain ⟨d, rfl⟩ := hd
  exact Run.st (fun t q => XT.lcmp X0.here hx rfl (hb hby d) rfl q) k
theorem r_dup {v : Value} (X : Sd K T h cl sl) (cx : Cx K y bytes mx rt R) (hd : Dc bytes pc .dup 1 pc') (hc : v.category = 1) (k : Run K Q T (mkF K.m pc' L (v :: v :: S))) : Run K Q T (mkF K.m pc L (v :: S)) := by
  obtain ⟨locs, X0, -⟩ := X; obtain ⟨hx, -, hby, -⟩ := cx; obtain ⟨d, rfl⟩ := hd
  exact Run.st (fun t q => XS.dup X0.here hx rfl (hb hby d) rfl hc q) k
theorem r_pop {v : Value} (X : Sd K T h cl sl) (cx : Cx K y bytes mx rt R) (hd : Dc bytes pc .pop 1 pc') (hc : v.category = 1) (k : Run K Q T (mkF K.m pc' L (S))) : Run K Q T (mkF K.m pc L (v :: S)) := by
  obtain ⟨locs, X0, -⟩ := X; obtain ⟨hx, -, hby, -⟩ := cx; obtain ⟨d, rfl⟩ := hd
  exact Run.st (fun t q => XT.pop X0.here hx rfl (hb hby d) rfl hc q) k
theorem r_dup2 {v w : Value} (X : Sd K T h cl sl) (cx : Cx K y bytes mx rt R) (hd : Dc bytes pc .dup2 1 pc') (hc : v.category = 1) (hc2 : w.category = 1) (k : Run K Q T (mkF K.m pc' L (v :: w :: v :: w :: S))) : Run K Q T (mkF K.m pc L (v :: w :: S)) := by
  obtain ⟨locs, X0, -⟩ := X; obtain ⟨hx, -, hby, -⟩ := cx; obtain ⟨d, rfl⟩ := hd
  exact Run.st (fun t q => XT.dup2 X0.here hx rfl (hb hby d) rfl hc hc2 q) k
theorem r_dup_x1 {v w : Value} (X : Sd K T h cl sl) (cx : Cx K y bytes mx rt R) (hd : Dc bytes pc .dup_x1 1 pc') (hc : v.category = 1) (hc2 : w.category = 1) (k : Run K Q T (mkF K.m pc' L (v :: w :: v :: S))) : Run K Q T (mkF K.m pc L (v :: w :: S)) := by
  obtain ⟨locs, X0, -⟩ := X; obtain ⟨hx, -, hby, -⟩ := cx; obtain ⟨d, rfl⟩ := hd
  exact Run.st (fun t q => XT.dupX1 X0.here hx rfl (hb hby d) rfl hc hc2 q) k
theorem r_istoreN {i : Fin 4} {x : Int32} (L' : Int32 → Array Slot) (X : Sd K T h cl sl) (cx : Cx K y bytes mx rt R) (hd : Dc bytes pc (.istore_n i) 1 pc') (hl : ∀ v, storeLocals L i.val (.int v) = some (L' v)) (k : ∀ v, v = x → Run K Q T (mkF K.m pc' (L' v) S)) : Run K Q T (mkF K.m pc L (.int x :: S)) := by
  obtain ⟨locs, X0, -⟩ := X; obtain ⟨hx, -, hby, -⟩ := cx; obtain ⟨d, rfl⟩ := hd
  exact Run.st (fun t q => XS.istoreN X0.here hx rfl (hb hby d) rfl (hl x) q) (k x rfl)
theorem r_istore {i : Nat} {x : Int32} (L' : Int32 → Array Slot) (X : Sd K T h cl sl) (cx : Cx K y bytes mx rt R) (hd : Dc bytes pc (.istore i) 2 pc') (hl : ∀ v, storeLocals L i (.int v) = some (L' v)) (k : ∀ v, v = x → Run K Q T (mkF K.m pc' (L' v) S)) : Run K Q T (mkF K.m pc L (.int x :: S)) := by
  obtain ⟨locs, X0, -⟩ := X; obtain ⟨hx, -, hby, -⟩ := cx; obtain ⟨d, rfl⟩ := hd
  exact Run.st (fun t q => XS.istore X0.here hx rfl (hb hby d) rfl (hl x) q) (k x rfl)
theorem r_lstoreN {i : Fin 4} {x : Int64} (L' : Int64 → Array Slot) (X : Sd K T h cl sl) (cx : Cx K y bytes mx rt R) (hd : Dc bytes pc (.lstore_n i) 1 pc') (hl : ∀ v, storeLocals L i.val (.long v) = some (L' v)) (k : ∀ v, v = x → Run K Q T (mkF K.m pc' (L' v) S)) : Run K Q T (mkF K.m pc L (.long x :: S)) := by
  obtain ⟨locs, X0, -⟩ := X; obtain ⟨hx, -, hby, -⟩ := cx; obtain ⟨d, rfl⟩ := hd
  exact Run.st (fun t q => XT.lstoreN X0.here hx rfl (hb hby d) rfl (hl x) q) (k x rfl)
theorem r_lstore {i : Nat} {x : Int64} (L' : Int64 → Array Slot) (X : Sd K T h cl sl) (cx : Cx K y bytes mx rt R) (hd : Dc bytes pc (.lstore i) 2 pc') (hl : ∀ v, storeLocals L i (.long v) = some (L' v)) (k : ∀ v, v = x → Run K Q T (mkF K.m pc' (L' v) S)) : Run K Q T (mkF K.m pc L (.long x :: S)) := by
  obtain ⟨locs, X0, -⟩ := X; obtain ⟨hx, -, hby, -⟩ := cx; obtain ⟨d, rfl⟩ := hd
  exact Run.st (fun t q => XT.lstore X0.here hx rfl (hb hby d) rfl (hl x) q) (k x rfl)
theorem r_astoreN {i : Fin 4} {x : Addr} (L' : Array Slot) (X : Sd K T h cl sl) (cx : Cx K y bytes mx rt R) (hd : Dc bytes pc (.astore_n i) 1 pc') (hl : storeLocals L i.val (.ref x) = some L') (k : Run K Q T (mkF K.m pc' L' S)) : Run K Q T (mkF K.m pc L (.ref x :: S)) := by
  obtain ⟨locs, X0, -⟩ := X; obtain ⟨hx, -, hby, -⟩ := cx; obtain ⟨d, rfl⟩ := hd
  exact Run.st (fun t q => XS.astoreN X0.here hx rfl (hb hby d) rfl rfl hl q) k
theorem r_astore {i : Nat} {x : Addr} (L' : Array Slot) (X : Sd K T h cl sl) (cx : Cx K y bytes mx rt R) (hd : Dc bytes pc (.astore i) 2 pc') (hl : storeLocals L i (.ref x) = some L') (k : Run K Q T (mkF K.m pc' L' S)) : Run K Q T (mkF K.m pc L (.ref x :: S)) := by
  obtain ⟨locs, X0, -⟩ := X; obtain ⟨hx, -, hby, -⟩ := cx; obtain ⟨d, rfl⟩ := hd
  exact Run.st (fun t q => XS.astore X0.here hx rfl (hb hby d) rfl rfl hl q) k
theorem r_iinc {i : Nat} {cst : Int} {x : Int32} (w : Int32) (L' : Int32 → Array Slot) (X : Sd K T h cl sl) (cx : Cx K y bytes mx rt R) (hd : Dc bytes pc (.iinc i cst) 3 pc') (hv : Int32.ofInt cst = w) (ho : L[i]? = some (.val (.int x))) (hl : ∀ v, storeLocals L i (.int v) = some (L' v)) (k : ∀ v, v = x + w → Run K Q T (mkF K.m pc' (L' v) S)) : Run K Q T (mkF K.m pc L S) := by
  obtain ⟨locs, X0, -⟩ := X; obtain ⟨hx, -, hby, -⟩ := cx; obtain ⟨d, rfl⟩ := hd
  exact Run.st (fun t q => XT.iincV X0.here hx rfl w (hb hby d) hv ho (hl _) q) (k _ rfl)
theorem r_goto {o : Int} (X : Sd K T h cl sl) (cx : Cx K y bytes mx rt R) (hd : Db bytes pc (.goto o) o pc' pt) (k : Run K Q T (mkF K.m pt L S)) : Run K Q T (mkF K.m pc L S) := by
  obtain ⟨locs, X0, -⟩ := X; obtain ⟨hx, -, hby, -⟩ := cx; obtain ⟨d, -, ho, hp⟩ := hd
  exact Run.st (fun t q => XS.goto X0.here hx rfl (pc0 := pc) rfl (hb hby d) ho hp q) k
theorem r_icmpeq {o : Int} {a b : Int32} (X : Sd K T h cl sl) (cx : Cx K y bytes mx rt R) (hd : Db bytes pc (.if_icmp .eq o) o pc' pt) (k1 : a = b → Run K Q T (mkF K.m pt L S)) (k2 : ¬ a = b → Run K Q T (mkF K.m pc' L S)) : Run K Q T (mkF K.m pc L (.int b :: .int a :: S)) := by
  obtain ⟨locs, X0, -⟩ := X; obtain ⟨hx, -, hby, -⟩ := cx; obtain ⟨d, rfl, ho, hp⟩ := hd
  by_cases q : a = b
  · exact Run.st (fun t u => XS.icmpYes X0.here hx rfl (pc0 := pc) rfl (hb hby d) rfl (XT.ii_eq_t q) ho hp u) (k1 q)
  · exact Run.st (fun t u => XS.icmpNo X0.here hx rfl (hb hby d) rfl (XT.ii_eq_f q) u) (k2 q)
theorem r_ifeq {o : Int} {a : Int32} (X : Sd K T h cl sl) (cx : Cx K y bytes mx rt R) (hd : Db bytes pc (.ifCond .eq o) o pc' pt) (k1 : a = 0 → Run K Q T (mkF K.m pt L S)) (k2 : ¬ a = 0 → Run K Q T (mkF K.m pc' L S)) : Run K Q T (mkF K.m pc L (.int a :: S)) := by
  obtain ⟨locs, X0, -⟩ := X; obtain ⟨hx, -, hby, -⟩ := cx; obtain ⟨d, rfl, ho, hp⟩ := hd
  by_cases q : a = 0
  · exact Run.st (fun t u => XS.ifYes X0.here hx rfl (pc0 := pc) rfl (hb hby d) rfl (XT.i0_eq_t q) ho hp u) (k1 q)
  · exact Run.st (fun t u => XS.ifNo X0.here hx rfl (hb hby d) rfl (XT.i0_eq_f q) u) (k2 q)
theorem r_lcmpeq {o : Int} {a b : Int64} (X : Sd K T h cl sl) (cx : Cx K y bytes mx rt R) (hd : Db bytes pc (.ifCond .eq o) o pc' pt) (k1 : a = b → Run K Q T (mkF K.m pt L S)) (k2 : ¬ a = b → Run K Q T (mkF K.m pc' L S)) : Run K Q T (mkF K.m pc L (.int (XT.cmpL a b) :: S)) := by
  obtain ⟨locs, X0, -⟩ := X; obtain ⟨hx, -, hby, -⟩ := cx; obtain ⟨d, rfl, ho, hp⟩ := hd
  by_cases q : a = b
  · exact Run.st (fun t u => XS.ifYes X0.here hx rfl (pc0 := pc) rfl (hb hby d) rfl (XT.ll_eq_t q) ho hp u) (k1 q)
  · exact Run.st (fun t u => XS.ifNo X0.here hx rfl (hb hby d) rfl (XT.ll_eq_f q) u) (k2 q)
theorem r_icmpne {o : Int} {a b : Int32} (X : Sd K T h cl sl) (cx : Cx K y bytes mx rt R) (hd : Db bytes pc (.if_icmp .ne o) o pc' pt) (k1 : ¬ a = b → Run K Q T (mkF K.m pt L S)) (k2 : a = b → Run K Q T (mkF K.m pc' L S)) : Run K Q T (mkF K.m pc L (.int b :: .int a :: S)) := by
  obtain ⟨locs, X0, -⟩ := X; obtain ⟨hx, -, hby, -⟩ := cx; obtain ⟨d, rfl, ho, hp⟩ := hd
  by_cases q : a = b
  · exact Run.st (fun t u => XS.icmpNo X0.here hx rfl (hb hby d) rfl (XT.ii_ne_f q) u) (k2 q)
  · exact Run.st (fun t u => XS.icmpYes X0.here hx rfl (pc0 := pc) rfl (hb hby d) rfl (XT.ii_ne_t q) ho hp u) (k1 q)
theorem r_ifne {o : Int} {a : Int32} (X : Sd K T h cl sl) (cx : Cx K y bytes mx rt R) (hd : Db bytes pc (.ifCond .ne o) o pc' pt) (k1 : ¬ a = 0 → Run K Q T (mkF K.m pt L S)) (k2 : a = 0 → Run K Q T (mkF K.m pc' L S)) : Run K Q T (mkF K.m pc L (.int a :: S)) := by
  obtain ⟨locs, X0, -⟩ := X; obtain ⟨hx, -, hby, -⟩ := cx; obtain ⟨d, rfl, ho, hp⟩ := hd
  by_cases q : a = 0
  · exact Run.st (fun t u => XS.ifNo X0.here hx rfl (hb hby d) rfl (XT.i0_ne_f q) u) (k2 q)
  · exact Run.st (fun t u => XS.ifYes X0.here hx rfl (pc0 := pc) rfl (hb hby d) rfl (XT.i0_ne_t q) ho hp u) (k1 q)
theorem r_lcmpne {o : Int} {a b : Int64} (X : Sd K T h cl sl) (cx : Cx K y bytes mx rt R) (hd : Db bytes pc (.ifCond .ne o) o pc' pt) (k1 : ¬ a = b → Run K Q T (mkF K.m pt L S)) (k2 : a = b → Run K Q T (mkF K.m pc' L S)) : Run K Q T (mkF K.m pc L (.int (XT.cmpL a b) :: S)) := by
  obtain ⟨locs, X0, -⟩ := X; obtain ⟨hx, -, hby, -⟩ := cx; obtain ⟨d, rfl, ho, hp⟩ := hd
  by_cases q : a = b
  · exact Run.st (fun t u => XS.ifNo X0.here hx rfl (hb hby d) rfl (XT.ll_ne_f q) u) (k2 q)
  · exact Run.st (fun t u => XS.ifYes X0.here hx rfl (pc0 := pc) rfl (hb hby d) rfl (XT.ll_ne_t q) ho hp u) (k1 q)
theorem r_icmplt {o : Int} {a b : Int32} (X : Sd K T h cl sl) (cx : Cx K y bytes mx rt R) (hd : Db bytes pc (.if_icmp .lt o) o pc' pt) (k1 : a < b → Run K Q T (mkF K.m pt L S)) (k2 : ¬ a < b → Run K Q T (mkF K.m pc' L S)) : Run K Q T (mkF K.m pc L (.int b :: .int a :: S)) := by
  obtain ⟨locs, X0, -⟩ := X; obtain ⟨hx, -, hby, -⟩ := cx; obtain ⟨d, rfl, ho, hp⟩ := hd
  by_cases q : a < b
  · exact Run.st (fun t u => XS.icmpYes X0.here hx rfl (pc0 := pc) rfl (hb hby d) rfl (XT.ii_lt_t q) ho hp u) (k1 q)
  · exact Run.st (fun t u => XS.icmpNo X0.here hx rfl (hb hby d) rfl (XT.ii_lt_f q) u) (k2 q)
theorem r_iflt {o : Int} {a : Int32} (X : Sd K T h cl sl) (cx : Cx K y bytes mx rt R) (hd : Db bytes pc (.ifCond .lt o) o pc' pt) (k1 : a < 0 → Run K Q T (mkF K.m pt L S)) (k2 : ¬ a < 0 → Run K Q T (mkF K.m pc' L S)) : Run K Q T (mkF K.m pc L (.int a :: S)) := by
  obtain ⟨locs, X0, -⟩ := X; obtain ⟨hx, -, hby, -⟩ := cx; obtain ⟨d, rfl, ho, hp⟩ := hd
  by_cases q : a < 0
  · exact Run.st (fun t u => XS.ifYes X0.here hx rfl (pc0 := pc) rfl (hb hby d) rfl (XT.i0_lt_t q) ho hp u) (k1 q)
  · exact Run.st (fun t u => XS.ifNo X0.here hx rfl (hb hby d) rfl (XT.i0_lt_f q) u) (k2 q)
theorem r_lcmplt {o : Int} {a b : Int64} (X : Sd K T h cl sl) (cx : Cx K y bytes mx rt R) (hd : Db bytes pc (.ifCond .lt o) o pc' pt) (k1 : a < b → Run K Q T (mkF K.m pt L S)) (k2 : ¬ a < b → Run K Q T (mkF K.m pc' L S)) : Run K Q T (mkF K.m pc L (.int (XT.cmpL a b) :: S)) := by
  obtain ⟨locs, X0, -⟩ := X; obtain ⟨hx, -, hby, -⟩ := cx; obtain ⟨d, rfl, ho, hp⟩ := hd
  by_cases q : a < b
  · exact Run.st (fun t u => XS.ifYes X0.here hx rfl (pc0 := pc) rfl (hb hby d) rfl (XT.ll_lt_t q) ho hp u) (k1 q)
  · exact Run.st (fun t u => XS.ifNo X0.here hx rfl (hb hby d) rfl (XT.ll_lt_f q) u) (k2 q)
theorem r_icmpge {o : Int} {a b : Int32} (X : Sd K T h cl sl) (cx : Cx K y bytes mx rt R) (hd : Db bytes pc (.if_icmp .ge o) o pc' pt) (k1 : ¬ a < b → Run K Q T (mkF K.m pt L S)) (k2 : a < b → Run K Q T (mkF K.m pc' L S)) : Run K Q T (mkF K.m pc L (.int b :: .int a :: S)) := by
  obtain ⟨locs, X0, -⟩ := X; obtain ⟨hx, -, hby, -⟩ := cx; obtain ⟨d, rfl, ho, hp⟩ := hd
  by_cases q : a < b
  · exact Run.st (fun t u => XS.icmpNo X0.here hx rfl (hb hby d) rfl (XT.ii_ge_f q) u) (k2 q)
  · exact Run.st (fun t u => XS.icmpYes X0.here hx rfl (pc0 := pc) rfl (hb hby d) rfl (XT.ii_ge_t q) ho hp u) (k1 q)
theorem r_ifge {o : Int} {a : Int32} (X : Sd K T h cl sl) (cx : Cx K y bytes mx rt R) (hd : Db bytes pc (.ifCond .ge o) o pc' pt) (k1 : ¬ a < 0 → Run K Q T (mkF K.m pt L S)) (k2 : a < 0 → Run K Q T (mkF K.m pc' L S)) : Run K Q T (mkF K.m pc L (.int a :: S)) := by
  obtain ⟨locs, X0, -⟩ := X; obtain ⟨hx, -, hby, -⟩ := cx; obtain ⟨d, rfl, ho, hp⟩ := hd
  by_cases q : a < 0
  · exact Run.st (fun t u => XS.ifNo X0.here hx rfl (hb hby d) rfl (XT.i0_ge_f q) u) (k2 q)
  · exact Run.st (fun t u => XS.ifYes X0.here hx rfl (pc0 := pc) rfl (hb hby d) rfl (XT.i0_ge_t q) ho hp u) (k1 q)
theorem r_lcmpge {o : Int} {a b : Int64} (X : Sd K T h cl sl) (cx : Cx K y bytes mx rt R) (hd : Db bytes pc (.ifCond .ge o) o pc' pt) (k1 : ¬ a < b → Run K Q T (mkF K.m pt L S)) (k2 : a < b → Run K Q T (mkF K.m pc' L S)) : Run K Q T (mkF K.m pc L (.int (XT.cmpL a b) :: S)) := by
  obtain ⟨locs, X0, -⟩ := X; obtain ⟨hx, -, hby, -⟩ := cx; obtain ⟨d, rfl, ho, hp⟩ := hd
  by_cases q : a < b
  · exact Run.st (fun t u => XS.ifNo X0.here hx rfl (hb hby d) rfl (XT.ll_ge_f q) u) (k2 q)
  · exact Run.st (fun t u => XS.ifYes X0.here hx rfl (pc0 := pc) rfl (hb hby d) rfl (XT.ll_ge_t q) ho hp u) (k1 q)
theorem r_icmpgt {o : Int} {a b : Int32} (X : Sd K T h cl sl) (cx : Cx K y bytes mx rt R) (hd : Db bytes pc (.if_icmp .gt o) o pc' pt) (k1 : b < a → Run K Q T (mkF K.m pt L S)) (k2 : ¬ b < a → Run K Q T (mkF K.m pc' L S)) : Run K Q T (mkF K.m pc L (.int b :: .int a :: S)) := by
  obtain ⟨locs, X0, -⟩ := X; obtain ⟨hx, -, hby, -⟩ := cx; obtain ⟨d, rfl, ho, hp⟩ := hd
  by_cases q : b < a
  · exact Run.st (fun t u => XS.icmpYes X0.here hx rfl (pc0 := pc) rfl (hb hby d) rfl (XT.ii_gt_t q) ho hp u) (k1 q)
  · exact Run.st (fun t u => XS.icmpNo X0.here hx rfl (hb hby d) rfl (XT.ii_gt_f q) u) (k2 q)
theorem r_ifgt {o : Int} {a : Int32} (X : Sd K T h cl sl) (cx : Cx K y bytes mx rt R) (hd : Db bytes pc (.ifCond .gt o) o pc' pt) (k1 : 0 < a → Run K Q T (mkF K.m pt L S)) (k2 : ¬ 0 < a → Run K Q T (mkF K.m pc' L S)) : Run K Q T (mkF K.m pc L (.int a :: S)) := by
  obtain ⟨locs, X0, -⟩ := X; obtain ⟨hx, -, hby, -⟩ := cx; obtain ⟨d, rfl, ho, hp⟩ := hd
  by_cases q : 0 < a
  · exact Run.st (fun t u => XS.ifYes X0.here hx rfl (pc0 := pc) rfl (hb hby d) rfl (XT.i0_gt_t q) ho hp u) (k1 q)
  · exact Run.st (fun t u => XS.ifNo X0.here hx rfl (hb hby d) rfl (XT.i0_gt_f q) u) (k2 q)
theorem r_lcmpgt {o : Int} {a b : Int64} (X : Sd K T h cl sl) (cx : Cx K y bytes mx rt R) (hd : Db bytes pc (.ifCond .gt o) o pc' pt) (k1 : b < a → Run K Q T (mkF K.m pt L S)) (k2 : ¬ b < a → Run K Q T (mkF K.m pc' L S)) : Run K Q T (mkF K.m pc L (.int (XT.cmpL a b) :: S)) := by
  obtain ⟨locs, X0, -⟩ := X; obtain ⟨hx, -, hby, -⟩ := cx; obtain ⟨d, rfl, ho, hp⟩ := hd
  by_cases q : b < a
  · exact Run.st (fun t u => XS.ifYes X0.here hx rfl (pc0 := pc) rfl (hb hby d) rfl (XT.ll_gt_t q) ho hp u) (k1 q)
  · exact Run.st (fun t u => XS.ifNo X0.here hx rfl (hb hby d) rfl (XT.ll_gt_f q) u) (k2 q)
theorem r_icmple {o : Int} {a b : Int32} (X : Sd K T h cl sl) (cx : Cx K y bytes mx rt R) (hd : Db bytes pc (.if_icmp .le o) o pc' pt) (k1 : ¬ b < a → Run K Q T (mkF K.m pt L S)) (k2 : b < a → Run K Q T (mkF K.m pc' L S)) : Run K Q T (mkF K.m pc L (.int b :: .int a :: S)) := by
  obtain ⟨locs, X0, -⟩ := X; obtain ⟨hx, -, hby, -⟩ := cx; obtain ⟨d, rfl, ho, hp⟩ := hd
  by_cases q : b < a
  · exact Run.st (fun t u => XS.icmpNo X0.here hx rfl (hb hby d) rfl (XT.ii_le_f q) u) (k2 q)
  · exact Run.st (fun t u => XS.icmpYes X0.here hx rfl (pc0 := pc) rfl (hb hby d) rfl (XT.ii_le_t q) ho hp u) (k1 q)
theorem r_ifle {o : Int} {a : Int32} (X : Sd K T h cl sl) (cx : Cx K y bytes mx rt R) (hd : Db bytes pc (.ifCond .le o) o pc' pt) (k1 : ¬ 0 < a → Run K Q T (mkF K.m pt L S)) (k2 : 0 < a → Run K Q T (mkF K.m pc' L S)) : Run K Q T (mkF K.m pc L (.int a :: S)) := by
  obtain ⟨locs, X0, -⟩ := X; obtain ⟨hx, -, hby, -⟩ := cx; obtain ⟨d, rfl, ho, hp⟩ := hd
  by_cases q : 0 < a
  · exact Run.st (fun t u => XS.ifNo X0.here hx rfl (hb hby d) rfl (XT.i0_le_f q) u) (k2 q)
  · exact Run.st (fun t u => XS.ifYes X0.here hx rfl (pc0 := pc) rfl (hb hby d) rfl (XT.i0_le_t q) ho hp u) (k1 q)
theorem r_lcmple {o : Int} {a b : Int64} (X : Sd K T h cl sl) (cx : Cx K y bytes mx rt R) (hd : Db bytes pc (.ifCond .le o) o pc' pt) (k1 : ¬ b < a → Run K Q T (mkF K.m pt L S)) (k2 : b < a → Run K Q T (mkF K.m pc' L S)) : Run K Q T (mkF K.m pc L (.int (XT.cmpL a b) :: S)) := by
  obtain ⟨locs, X0, -⟩ := X; obtain ⟨hx, -, hby, -⟩ := cx; obtain ⟨d, rfl, ho, hp⟩ := hd
  by_cases q : b < a
  · exact Run.st (fun t u => XS.ifNo X0.here hx rfl (hb hby d) rfl (XT.ll_le_f q) u) (k2 q)
  · exact Run.st (fun t u => XS.ifYes X0.here hx rfl (pc0 := pc) rfl (hb hby d) rfl (XT.ll_le_t q) ho hp u) (k1 q)
theorem r_ldc {i : Nat} {v : Int32} {a0 : Array Value} (X : Sd K T h cl sl) (cx : Cx K y bytes mx rt R) (hd : Dc bytes pc (.ldc i) 2 pc') (w : (Cond.constant y.cls i v).before a0 K.Z = true) (k : Run K Q T (mkF K.m pc' L (.int v :: S))) : Run K Q T (mkF K.m pc L S) := by
  obtain ⟨locs, X0, -⟩ := X; obtain ⟨hx, hZ, hby, -, hown, -⟩ := cx; obtain ⟨d, rfl⟩ := hd
  exact Run.st (fun t q => Jvm.Stand.ldcI X0 hx hown (mv hZ w) rfl (hb hby d) q) k
theorem r_ldcW {i : Nat} {v : Int32} {a0 : Array Value} (X : Sd K T h cl sl) (cx : Cx K y bytes mx rt R) (hd : Dc bytes pc (.ldc_w i) 3 pc') (w : (Cond.constant y.cls i v).before a0 K.Z = true) (k : Run K Q T (mkF K.m pc' L (.int v :: S))) : Run K Q T (mkF K.m pc L S) := by
  obtain ⟨locs, X0, -⟩ := X; obtain ⟨hx, hZ, hby, -, hown, -⟩ := cx; obtain ⟨d, rfl⟩ := hd
  exact Run.st (fun t q => Jvm.Stand.ldcWI X0 hx hown (mv hZ w) rfl (hb hby d) q) k
theorem r_ldc2 {i : Nat} {v : Int64} {a0 : Array Value} (X : Sd K T h cl sl) (cx : Cx K y bytes mx rt R) (hd : Dc bytes pc (.ldc2_w i) 3 pc') (w : (Cond.constantLong y.cls i v).before a0 K.Z = true) (k : Run K Q T (mkF K.m pc' L (.long v :: S))) : Run K Q T (mkF K.m pc L S) := by
  obtain ⟨locs, X0, -⟩ := X; obtain ⟨hx, hZ, hby, -, hown, -⟩ := cx; obtain ⟨d, rfl⟩ := hd
  exact Run.st (fun t q => Jvm.Stand.ldc2J X0 hx hown (mv hZ w) rfl (hb hby d) q) k
theorem fin {v : Option Value} (X : Sd K T h cl sl) (cx : Cx K y bytes mx rt R) (hv : rt = none → v = none) (hc : cl ≤ R.cells) (hs : sl ≤ R.slots) (hq : Q v h) {g : JFrame}
    (st : ∀ fs, (∀ (f : JFrame) (acts : List Action), f.method = K.m → f.locked = none → f.entered = [] → (doReturn K.e (T.setTop f) acts v).1 = T.setFrames fs) → Steps K.p.tables K.e K.below (T.setTop g) (T.setFrames fs)) : Run K Q T g := by
  obtain ⟨locs, X0, N, hz, eT⟩ := X
  obtain ⟨hx, hZ, hby, hml, hown, hret, hlk, hR, hnm⟩ := cx
  obtain ⟨fs, hr, hrun, hended, hW, hsame⟩ := X0.leave (v := v) (fun q => hv (hret.symm.trans q)) hlk
  refine ⟨_, v, locs, st fs hr, hrun, hended, ?_, N, ⟨_, rfl⟩, hW, hsame.mono (by rw [hR]; exact hc) (by rw [hR]; exact hs)⟩
  show Q v T.heap
  rw [eT]; exact hq
theorem r_ireturn {z : Int32} (X : Sd K T h cl sl) (cx : Cx K y bytes mx (some .int) R) (hd : Dc bytes pc .ireturn 1 pc') (hc : cl ≤ R.cells) (hs : sl ≤ R.slots) (hq : Q (some (.int z)) h) : Run K Q T (mkF K.m pc L (.int z :: S)) := by
  refine fin X cx (fun q => nomatch q) hc hs hq fun fs hr => ?_
  obtain ⟨locs, X0, -⟩ := X; obtain ⟨hx, -, hby, -, -, hret, -⟩ := cx; obtain ⟨d, rfl⟩ := hd
  exact retI X0 hx hret (hb hby d) hr
theorem r_zreturn {z : Int32} (X : Sd K T h cl sl) (cx : Cx K y bytes mx (some .boolean) R) (hd : Dc bytes pc .ireturn 1 pc') (hc : cl ≤ R.cells) (hs : sl ≤ R.slots) (hq : Q (some (.int (nar .boolean z))) h) : Run K Q T (mkF K.m pc L (.int z :: S)) := by
  refine fin X cx (fun q => nomatch q) hc hs hq fun fs hr => ?_
  obtain ⟨locs, X0, -⟩ := X; obtain ⟨hx, -, hby, -, -, hret, -⟩ := cx; obtain ⟨d, rfl⟩ := hd
  exact retN X0 hx (t := .boolean) hret (by simp) (hb hby d) hr
theorem r_lreturn {z : Int64} (X : Sd K T h cl sl) (cx : Cx K y bytes mx (some .long) R) (hd : Dc bytes pc .lreturn 1 pc') (hc : cl ≤ R.cells) (hs : sl ≤ R.slots) (hq : Q (some (.long z)) h) : Run K Q T (mkF K.m pc L [.long z]) := by
  refine fin X cx (fun q => nomatch q) hc hs hq fun fs hr => ?_
  obtain ⟨locs, X0, -⟩ := X; obtain ⟨hx, -, hby, -, -, hret, -⟩ := cx; obtain ⟨d, rfl⟩ := hd
  exact X0.lreturnOut hx hret (hb hby d) hr
theorem r_areturn {z : Addr} {ty : FieldType} (X : Sd K T h cl sl) (cx : Cx K y bytes mx (some ty) R) (hty : ty.isReference = true) (hd : Dc bytes pc .areturn 1 pc') (hc : cl ≤ R.cells) (hs : sl ≤ R.slots) (hq : Q (some (.ref z)) h) : Run K Q T (mkF K.m pc L [.ref z]) := by
  refine fin X cx (fun q => nomatch q) hc hs hq fun fs hr => ?_
  obtain ⟨locs, X0, -⟩ := X; obtain ⟨hx, -, hby, -, -, hret, -⟩ := cx; obtain ⟨d, rfl⟩ := hd
  exact X0.areturnOut hx rfl hret hty (hb hby d) hr
theorem r_return (X : Sd K T h cl sl) (cx : Cx K y bytes mx none R) (hd : Dc bytes pc .return_ 1 pc') (hc : cl ≤ R.cells) (hs : sl ≤ R.slots) (hq : Q none h) : Run K Q T (mkF K.m pc L []) := by
  refine fin X cx (fun _ => rfl) hc hs hq fun fs hr => ?_
  obtain ⟨locs, X0, -⟩ := X; obtain ⟨hx, -, hby, -, -, hret, -⟩ := cx; obtain ⟨d, rfl⟩ := hd
  exact X0.returnOut hx hret (hb hby d) hr
/-! fields -/
theorem r_getfield {O n d : String} {i : Nat} {a : Addr} {v : Value} {a0 : Array Value} (X : Sd K T h cl sl) (cx : Cx K y bytes mx rt R) (hd : Dc bytes pc (.getfield i) 3 pc') (w : (Cond.fieldLink y.cls i O n d).before a0 K.Z = true) (F : Fld K.Z h a O n d v) (k : ∀ T', Sd K T' h cl sl → Run K Q T' (mkF K.m pc' L (v :: S))) : Run K Q T (mkF K.m pc L (.ref a :: S)) := by
  obtain ⟨locs, X0, N, hz, eT⟩ := X; obtain ⟨hx, hZ, hby, -, hown, -⟩ := cx; obtain ⟨dd, rfl⟩ := hd
  obtain ⟨T1, X1, e1, st1⟩ := getF X0 hx hZ hown (host := "") (Or.inl w) Via.refl eT F (g := mkF K.m pc L (.ref a :: S)) rfl rfl (hb hby dd)
  exact Run.st st1 (k T1 ⟨locs, X1, N, hz, e1⟩)
theorem r_getfieldN {O n d host : String} {i : Nat} {a : Addr} {v : Value} {a0 : Array Value} (X : Sd K T h cl sl) (cx : Cx K y bytes mx rt R) (hd : Dc bytes pc (.getfield i) 3 pc') (w : (Cond.fieldLinkNest y.cls i O n d host).before a0 K.Z = true) (F : Fld K.Z h a O n d v) (k : ∀ T', Sd K T' h cl sl → Run K Q T' (mkF K.m pc' L (v :: S))) : Run K Q T (mkF K.m pc L (.ref a :: S)) := by
  obtain ⟨locs, X0, N, hz, eT⟩ := X; obtain ⟨hx, hZ, hby, -, hown, -⟩ := cx; obtain ⟨dd, rfl⟩ := hd
  obtain ⟨T1, X1, e1, st1⟩ := getF X0 hx hZ hown (host := host) (Or.inr w) Via.refl eT F (g := mkF K.m pc L (.ref a :: S)) rfl rfl (hb hby dd)
  exact Run.st st1 (k T1 ⟨locs, X1, N, hz, e1⟩)
theorem r_putfield {O n d C : String} {i kk : Nat} {a : Addr} {v old : Value} {ty : FieldType} {a0 : Array Value} (X : Sd K T h cl sl) (cx : Cx K y bytes mx rt R) (hd : Dc bytes pc (.putfield i) 3 pc') (w : (Cond.fieldLink y.cls i O n d).before a0 K.Z = true) (F : Fld K.Z h a O n d old) (E : Exa K.Z h a C) (hL : (Cond.lays C O n d).before a0 K.Z = true ∨ ((Cond.laysFinal C O n d).before a0 K.Z = true ∧ y.cls = O ∧ y.name = "<init>")) (wi : (Cond.instantiable C kk).before a0 K.Z = true)
    (hty : parseFieldDescriptor d = some ty) (hn : narrow ty v = v) (hf : fits ty v = true) (ge : K.n0 ≤ a) (k : ∀ T' h', Sd K T' h' cl sl → Wr h h' a (Jvm.RoadKit.slotOf K.Z O n d) v → Fld K.Z h' a O n d v → Run K Q T' (mkF K.m pc' L S)) : Run K Q T (mkF K.m pc L (v :: .ref a :: S)) := by
  obtain ⟨locs, X0, N, hz, eT⟩ := X; obtain ⟨hx, hZ, hby, -, hown, -, -, -, hnm⟩ := cx; obtain ⟨dd, rfl⟩ := hd
  obtain ⟨T1, h1, X1, e1, W1, st1⟩ := putF X0 hx hZ hown (host := "") (Or.inl w) Via.refl eT F E (hL.imp id fun q => ⟨q.1, q.2.1, hnm.trans q.2.2⟩) wi hty hn hf (g := mkF K.m pc L (v :: .ref a :: S)) rfl rfl (hb hby dd)
  exact Run.st st1 (k T1 h1 ⟨_, X1, Fr.snoc X1 N ge, by rw [W1.size]; exact hz, e1⟩ W1 (F.same W1))
theorem r_new {C : String} {i n : Nat} {a0 : Array Value} (X : Sd K T h cl sl) (cx : Cx K y bytes mx rt R) (hd : Dc bytes pc (.new i) 3 pc') (w : (Cond.classLink y.cls i C).before a0 K.Z = true) (wi : (Cond.instantiable C n).before a0 K.Z = true) (wz : (Cond.initialized C).before a0 K.Z = true) (hc : cl + 1 ≤ R.cells) (hs : sl + n ≤ R.slots)
    (k : ∀ T' h' a, a = h.size → K.n0 ≤ a → Sd K T' h' (cl + 1) (sl + n) → Ext h h' → Exa K.Z h' a C → (∀ {O nm d : String} {ty : FieldType}, Laid K.Z a0 C O nm d → parseFieldDescriptor d = some ty → Fld K.Z h' a O nm d (defaultValue ty)) → Run K Q T' (mkF K.m pc' L (.ref a :: S))) : Run K Q T (mkF K.m pc L S) := by
  obtain ⟨locs, X0, N, hz, eT⟩ := X; obtain ⟨hx, hZ, hby, -, hown, -, -, hR, -⟩ := cx; obtain ⟨dd, rfl⟩ := hd
  obtain ⟨T1, h1, X1, e1, E1, A1, D1, -, st1⟩ := newO X0 hx hZ hown w wi wz eT (g := mkF K.m pc L S) rfl (hb hby dd) (by rw [hR]; exact hc) (by rw [hR]; exact hs)
  exact Run.st st1 (k T1 h1 h.size rfl hz ⟨locs, X1, N, Nat.le_trans hz E1.1, e1⟩ E1 A1 D1)
theorem r_initO {i : Nat} {a : Addr} {a0 : Array Value} (X : Sd K T h cl sl) (cx : Cx K y bytes mx rt R) (hd : Dc bytes pc (.invokespecial i) 3 pc') (w1 : (Cond.methodLink y.cls i Lib.objectInit).before a0 K.Z = true) (w2 : (Cond.instanceMethod Lib.objectInit).before a0 K.Z = true) (w3 : (Cond.code Lib.objectInit ⟨#[0xb1]⟩ 1 none).before a0 K.Z = true) (hsz : L.size = mx) (hf : 1 ≤ R.frames) (hl : (S.map fun v => v.category).sum + 12 ≤ R.locals) (k : ∀ T', Sd K T' h cl sl → Run K Q T' (mkF K.m pc' L S)) : Run K Q T (mkF K.m pc L (.ref a :: S)) := by
  obtain ⟨locs, X0, N, hz, eT⟩ := X; obtain ⟨hx, hZ, hby, hml, hown, -, -, hR, -⟩ := cx; obtain ⟨dd, rfl⟩ := hd
  obtain ⟨T1, X1, e1, st1⟩ := initO X0 hx hZ hown w1 w2 w3 eT (g := mkF K.m pc L (.ref a :: S)) rfl (by rw [hml]; exact hsz) rfl (hb hby dd) (by rw [hR]; exact hf) (W := (S.map fun v => v.category).sum) (by show 2 * 0 + _ ≤ _; omega) (by rw [hR]; exact hl)
  exact Run.st st1 (k T1 ⟨locs, X1, N, hz, e1⟩)
end Rules
/-! arrays: their whole list of values -/
def AV (Z : State) (h : Heap) (a : Addr) (ty : FieldType) (vs : List Value) : Prop := ∃ c : Cell, Arr Z h a c ty ∧ c.slots.toList = vs ∧ vs.length < 2 ^ 31
def AI (ty : FieldType) (Z : State) (h : Heap) (a : Addr) (xs : List Int32) : Prop := AV Z h a ty (xs.map Value.int)
def AJ (Z : State) (h : Heap) (a : Addr) (xs : List Int64) : Prop := AV Z h a .long (xs.map Value.long)
theorem AV.ext {Z : State} {h h' : Heap} {a : Addr} {ty : FieldType} {vs : List Value} (A : AV Z h a ty vs) (E : Ext h h') : AV Z h' a ty vs := by obtain ⟨c, q, r⟩ := A; exact ⟨c, q.ext E, r⟩
theorem AV.other {Z : State} {h h' : Heap} {a b : Addr} {ty : FieldType} {vs : List Value} {sl : Nat} {v : Value} (A : AV Z h a ty vs) (W : Wr h h' b sl v) (q : a ≠ b) : AV Z h' a ty vs := by obtain ⟨c, u, r⟩ := A; exact ⟨c, u.other W q, r⟩
theorem AV.keep {Z : State} {h h' : Heap} {a : Addr} {ty : FieldType} {vs : List Value} {ws : List Addr} (A : AV Z h a ty vs) (k : Keep h h' ws) (q : a ∉ ws) : AV Z h' a ty vs := by obtain ⟨c, u, r⟩ := A; exact ⟨c, ⟨k.2.1 a c u.1 q, u.2⟩, r⟩
theorem AV.lt {Z : State} {h : Heap} {a : Addr} {ty : FieldType} {vs : List Value} (A : AV Z h a ty vs) : a < h.size := by obtain ⟨c, u, r⟩ := A; exact u.lt
theorem AV.len {Z : State} {h : Heap} {a : Addr} {ty : FieldType} {vs : List Value} (A : AV Z h a ty vs) : vs.length < 2 ^ 31 := by obtain ⟨c, u, r, q⟩ := A; exact q
theorem AV.set {Z : State} {h h' : Heap} {a : Addr} {ty : FieldType} {vs : List Value} {n : Nat} {v : Value} (A : AV Z h a ty vs) (W : Wr h h' a n v) : AV Z h' a ty (vs.set n v) := by
  obtain ⟨c, u, r, q⟩ := A
  refine ⟨_, u.same W, ?_, by simpa using q⟩
  subst r
  simp [Cell.setSlot]
section
variable {ty : FieldType} {Z : State} {h h' : Heap} {a b : Addr} {xs : List Int32} {zs : List Int64} {sl : Nat} {v : Value} {ws : List Addr}
theorem AI.ext (A : AI ty Z h a xs) (E : Ext h h') : AI ty Z h' a xs := AV.ext A E
theorem AI.other (A : AI ty Z h a xs) (W : Wr h h' b sl v) (q : a ≠ b) : AI ty Z h' a xs := AV.other A W q
theorem AI.keep (A : AI ty Z h a xs) (k : Keep h h' ws) (q : a ∉ ws) : AI ty Z h' a xs := AV.keep A k q
theorem AI.lt (A : AI ty Z h a xs) : a < h.size := AV.lt A
theorem AI.len (A : AI ty Z h a xs) : xs.length < 2 ^ 31 := by simpa using AV.len A
theorem AI.set {n : Nat} {x : Int32} (A : AI ty Z h a xs) (W : Wr h h' a n (.int x)) : AI ty Z h' a (xs.set n x) := by
  have q := AV.set A W
  show AV Z h' a ty ((xs.set n x).map Value.int)
  rw [List.map_set]; exact q
theorem AJ.ext (A : AJ Z h a zs) (E : Ext h h') : AJ Z h' a zs := AV.ext A E
theorem AJ.other (A : AJ Z h a zs) (W : Wr h h' b sl v) (q : a ≠ b) : AJ Z h' a zs := AV.other A W q
theorem AJ.keep (A : AJ Z h a zs) (k : Keep h h' ws) (q : a ∉ ws) : AJ Z h' a zs := AV.keep A k q
theorem AJ.lt (A : AJ Z h a zs) : a < h.size := AV.lt A
theorem AJ.len (A : AJ Z h a zs) : zs.length < 2 ^ 31 := by simpa using AV.len A
theorem AJ.set {n : Nat} {x : Int64} (A : AJ Z h a zs) (W : Wr h h' a n (.long x)) : AJ Z h' a (zs.set n x) := by
  have q := AV.set A W
  show AV Z h' a .long ((zs.set n x).map Value.long)
  rw [List.map_set]; exact q
end
theorem ofNat_neg {n : Nat} (hn : n < 2 ^ 31) : ¬ Int32.ofNat n < 0 := by
  rw [Int32.lt_iff_toInt_lt, Int32.toInt_ofNat_of_lt hn]
  show ¬ (n : Int) < 0
  omega
theorem ofNat_clamp {n : Nat} (hn : n < 2 ^ 31) : (Int32.ofNat n).toNatClampNeg = n := by
  show (Int32.ofNat n).toInt.toNat = n
  rw [Int32.toInt_ofNat_of_lt hn]; rfl
section Rules
variable {K : KT} {Q : Option Value → Heap → Prop} {T : State} {h : Heap} {cl sl : Nat} {y : MethodName} {bytes : ByteArray} {mx : Nat} {rt : Option FieldType} {R : Room} {pc pc' pt : Nat} {L : Array Slot} {S : List Value}
theorem r_arraylength {ty : FieldType} {vs : List Value} {a : Addr} (X : Sd K T h cl sl) (cx : Cx K y bytes mx rt R) (hd : Dc bytes pc .arraylength 1 pc') (A : AV K.Z h a ty vs) (k : Run K Q T (mkF K.m pc' L (.int (Int32.ofNat vs.length) :: S))) : Run K Q T (mkF K.m pc L (.ref a :: S)) := by
  obtain ⟨locs, X0, N, hz, eT⟩ := X; obtain ⟨hx, hZ, hby, -, hown, -⟩ := cx; obtain ⟨dd, rfl⟩ := hd
  obtain ⟨c, Ar, hc, hlen⟩ := A
  have hs : c.slots.size = vs.length := by rw [← hc]; simp
  refine Run.st (X0.arraylength hx (cell := c) (by rw [eT]; exact Ar.1) (State.isArrayOf_alike hZ.alike Ar.2.1) (g := mkF K.m pc L (.ref a :: S)) rfl (rest := S) rfl (hb hby dd)) ?_
  rw [hs]; exact k
theorem r_alen {ty : FieldType} {xs : List Int32} {a : Addr} (X : Sd K T h cl sl) (cx : Cx K y bytes mx rt R) (hd : Dc bytes pc .arraylength 1 pc') (A : AI ty K.Z h a xs) (n : Nat) (hn : xs.length = n) (k : Run K Q T (mkF K.m pc' L (.int (Int32.ofNat n) :: S))) : Run K Q T (mkF K.m pc L (.ref a :: S)) :=
  r_arraylength X cx hd A (by rw [List.length_map, hn]; exact k)
theorem r_alenJ {xs : List Int64} {a : Addr} (X : Sd K T h cl sl) (cx : Cx K y bytes mx rt R) (hd : Dc bytes pc .arraylength 1 pc') (A : AJ K.Z h a xs) (n : Nat) (hn : xs.length = n) (k : Run K Q T (mkF K.m pc' L (.int (Int32.ofNat n) :: S))) : Run K Q T (mkF K.m pc L (.ref a :: S)) :=
  r_arraylength X cx hd A (by rw [List.length_map, hn]; exact k)
theorem r_iaload {xs : List Int32} {a : Addr} {j : Int32} {v : Int32} (X : Sd K T h cl sl) (cx : Cx K y bytes mx rt R) (hd : Dc bytes pc .iaload 1 pc') (A : AI .int K.Z h a xs) (n : Nat) (hj : j = Int32.ofNat n) (hv : xs[n]? = some v) (k : Run K Q T (mkF K.m pc' L (.int v :: S))) : Run K Q T (mkF K.m pc L (.int j :: .ref a :: S)) := by
  obtain ⟨locs, X0, N, hz, eT⟩ := X; obtain ⟨hx, hZ, hby, -, hown, -⟩ := cx; obtain ⟨dd, rfl⟩ := hd
  obtain ⟨c, Ar, hc, hlen⟩ := A
  have hs : c.slots.size = xs.length := by have := congrArg List.length hc; simpa using this
  have hl : n < xs.length := (List.getElem?_eq_some_iff.mp hv).1
  have hn : n < 2 ^ 31 := by simp at hlen; omega
  subst hj
  have e1 := ofNat_clamp hn
  have hat : c.slots[(Int32.ofNat n).toNatClampNeg]? = some (.int v) := by
    rw [e1, ← Array.getElem?_toList, hc, List.getElem?_map, hv]; rfl
  exact Run.st (X0.iaload hx (cell := c) (by rw [eT]; exact Ar.1) (State.isArrayOf_alike hZ.alike Ar.2.1) Ar.2.2 (by rw [e1, hs]; intro q; rcases q with q | q; exact ofNat_neg hn q; omega) hat (g := mkF K.m pc L (.int (Int32.ofNat n) :: .ref a :: S)) rfl rfl (hb hby dd)) k
theorem r_saload {xs : List Int32} {a : Addr} {j : Int32} {v : Int32} (X : Sd K T h cl sl) (cx : Cx K y bytes mx rt R) (hd : Dc bytes pc .saload 1 pc') (A : AI .short K.Z h a xs) (n : Nat) (hj : j = Int32.ofNat n) (hv : xs[n]? = some v) (k : Run K Q T (mkF K.m pc' L (.int v :: S))) : Run K Q T (mkF K.m pc L (.int j :: .ref a :: S)) := by
  obtain ⟨locs, X0, N, hz, eT⟩ := X; obtain ⟨hx, hZ, hby, -, hown, -⟩ := cx; obtain ⟨dd, rfl⟩ := hd
  obtain ⟨c, Ar, hc, hlen⟩ := A
  have hs : c.slots.size = xs.length := by have := congrArg List.length hc; simpa using this
  have hl : n < xs.length := (List.getElem?_eq_some_iff.mp hv).1
  have hn : n < 2 ^ 31 := by simp at hlen; omega
  subst hj
  have e1 := ofNat_clamp hn
  have hat : c.slots[(Int32.ofNat n).toNatClampNeg]? = some (.int v) := by
    rw [e1, ← Array.getElem?_toList, hc, List.getElem?_map, hv]; rfl
  exact Run.st (X0.saload hx (cell := c) (by rw [eT]; exact Ar.1) (State.isArrayOf_alike hZ.alike Ar.2.1) Ar.2.2 (by rw [e1, hs]; intro q; rcases q with q | q; exact ofNat_neg hn q; omega) hat (g := mkF K.m pc L (.int (Int32.ofNat n) :: .ref a :: S)) rfl rfl (hb hby dd)) k
theorem r_baload {xs : List Int32} {a : Addr} {j : Int32} {v : Int32} (X : Sd K T h cl sl) (cx : Cx K y bytes mx rt R) (hd : Dc bytes pc .baload 1 pc') (A : AI .byte K.Z h a xs) (n : Nat) (hj : j = Int32.ofNat n) (hv : xs[n]? = some v) (k : Run K Q T (mkF K.m pc' L (.int v :: S))) : Run K Q T (mkF K.m pc L (.int j :: .ref a :: S)) := by
  obtain ⟨locs, X0, N, hz, eT⟩ := X; obtain ⟨hx, hZ, hby, -, hown, -⟩ := cx; obtain ⟨dd, rfl⟩ := hd
  obtain ⟨c, Ar, hc, hlen⟩ := A
  have hs : c.slots.size = xs.length := by have := congrArg List.length hc; simpa using this
  have hl : n < xs.length := (List.getElem?_eq_some_iff.mp hv).1
  have hn : n < 2 ^ 31 := by simp at hlen; omega
  subst hj
  have e1 := ofNat_clamp hn
  have hat : c.slots[(Int32.ofNat n).toNatClampNeg]? = some (.int v) := by
    rw [e1, ← Array.getElem?_toList, hc, List.getElem?_map, hv]; rfl
  exact Run.st (X0.baloadBytes hx (cell := c) (by rw [eT]; exact Ar.1) (State.isArrayOf_alike hZ.alike Ar.2.1) Ar.2.2 (by rw [e1, hs]; intro q; rcases q with q | q; exact ofNat_neg hn q; omega) hat (g := mkF K.m pc L (.int (Int32.ofNat n) :: .ref a :: S)) rfl rfl (hb hby dd)) k
theorem r_laload {xs : List Int64} {a : Addr} {j : Int32} {v : Int64} (X : Sd K T h cl sl) (cx : Cx K y bytes mx rt R) (hd : Dc bytes pc .laload 1 pc') (A : AJ K.Z h a xs) (n : Nat) (hj : j = Int32.ofNat n) (hv : xs[n]? = some v) (k : Run K Q T (mkF K.m pc' L (.long v :: S))) : Run K Q T (mkF K.m pc L (.int j :: .ref a :: S)) := by
  obtain ⟨locs, X0, N, hz, eT⟩ := X; obtain ⟨hx, hZ, hby, -, hown, -⟩ := cx; obtain ⟨dd, rfl⟩ := hd
  obtain ⟨c, Ar, hc, hlen⟩ := A
  have hs : c.slots.size = xs.length := by have := congrArg List.length hc; simpa using this
  have hl : n < xs.length := (List.getElem?_eq_some_iff.mp hv).1
  have hn : n < 2 ^ 31 := by simp at hlen; omega
  subst hj
  have e1 := ofNat_clamp hn
  have hat : c.slots[(Int32.ofNat n).toNatClampNeg]? = some (.long v) := by
    rw [e1, ← Array.getElem?_toList, hc, List.getElem?_map, hv]; rfl
  exact Run.st (X0.laload hx (cell := c) (by rw [eT]; exact Ar.1) (State.isArrayOf_alike hZ.alike Ar.2.1) Ar.2.2 (by rw [e1, hs]; intro q; rcases q with q | q; exact ofNat_neg hn q; omega) hat (g := mkF K.m pc L (.int (Int32.ofNat n) :: .ref a :: S)) rfl rfl (hb hby dd)) k
theorem r_iastore {xs : List Int32} {a : Addr} {j : Int32} {x : Int32} (X : Sd K T h cl sl) (cx : Cx K y bytes mx rt R) (hd : Dc bytes pc .iastore 1 pc') (A : AI .int K.Z h a xs) (n : Nat) (hj : j = Int32.ofNat n) (hl : n < xs.length) (ge : K.n0 ≤ a) (k : ∀ T' h', Sd K T' h' cl sl → Wr h h' a n (.int x) → AI .int K.Z h' a (xs.set n x) → Run K Q T' (mkF K.m pc' L S)) : Run K Q T (mkF K.m pc L (.int x :: .int j :: .ref a :: S)) := by
  obtain ⟨locs, X0, N, hz, eT⟩ := X; obtain ⟨hx, hZ, hby, -, hown, -⟩ := cx; obtain ⟨dd, rfl⟩ := hd
  have A0 := A
  obtain ⟨c, Ar, hc, hlen⟩ := A
  have hs : c.slots.size = xs.length := by have := congrArg List.length hc; simpa using this
  have hn : n < 2 ^ 31 := by simp at hlen; omega
  subst hj
  have e1 := ofNat_clamp hn
  obtain ⟨T1, h1, X1, eh1, W1, st1⟩ := stI X0 hx hZ eT Ar (j := Int32.ofNat n) (x := x) (by rw [e1, hs]; intro q; rcases q with q | q; exact ofNat_neg hn q; omega) (g := mkF K.m pc L (.int x :: .int (Int32.ofNat n) :: .ref a :: S)) rfl rfl (hb hby dd)
  have hz1 : K.n0 ≤ h1.size := by rw [W1.size]; exact hz
  have N1 := Fr.snoc X1 N ge
  rw [e1] at W1
  exact Run.st st1 (k T1 h1 ⟨_, X1, N1, hz1, eh1⟩ W1 (AI.set A0 W1))
theorem r_sastore {xs : List Int32} {a : Addr} {j : Int32} {x : Int32} (X : Sd K T h cl sl) (cx : Cx K y bytes mx rt R) (hd : Dc bytes pc .sastore 1 pc') (A : AI .short K.Z h a xs) (n : Nat) (hj : j = Int32.ofNat n) (hl : n < xs.length) (ge : K.n0 ≤ a) (k : ∀ T' h', Sd K T' h' cl sl → Wr h h' a n (.int (nar .short x)) → AI .short K.Z h' a (xs.set n (nar .short x)) → Run K Q T' (mkF K.m pc' L S)) : Run K Q T (mkF K.m pc L (.int x :: .int j :: .ref a :: S)) := by
  obtain ⟨locs, X0, N, hz, eT⟩ := X; obtain ⟨hx, hZ, hby, -, hown, -⟩ := cx; obtain ⟨dd, rfl⟩ := hd
  have A0 := A
  obtain ⟨c, Ar, hc, hlen⟩ := A
  have hs : c.slots.size = xs.length := by have := congrArg List.length hc; simpa using this
  have hn : n < 2 ^ 31 := by simp at hlen; omega
  subst hj
  have e1 := ofNat_clamp hn
  obtain ⟨T1, h1, X1, eh1, W1, st1⟩ := stS X0 hx hZ eT Ar (j := Int32.ofNat n) (x := x) (by rw [e1, hs]; intro q; rcases q with q | q; exact ofNat_neg hn q; omega) (g := mkF K.m pc L (.int x :: .int (Int32.ofNat n) :: .ref a :: S)) rfl rfl (hb hby dd)
  have hz1 : K.n0 ≤ h1.size := by rw [W1.size]; exact hz
  have N1 := Fr.snoc X1 N ge
  rw [e1] at W1
  exact Run.st st1 (k T1 h1 ⟨_, X1, N1, hz1, eh1⟩ W1 (AI.set A0 W1))
theorem r_bastore {xs : List Int32} {a : Addr} {j : Int32} {x : Int32} (X : Sd K T h cl sl) (cx : Cx K y bytes mx rt R) (hd : Dc bytes pc .bastore 1 pc') (A : AI .byte K.Z h a xs) (n : Nat) (hj : j = Int32.ofNat n) (hl : n < xs.length) (ge : K.n0 ≤ a) (k : ∀ T' h', Sd K T' h' cl sl → Wr h h' a n (.int (nar .byte x)) → AI .byte K.Z h' a (xs.set n (nar .byte x)) → Run K Q T' (mkF K.m pc' L S)) : Run K Q T (mkF K.m pc L (.int x :: .int j :: .ref a :: S)) := by
  obtain ⟨locs, X0, N, hz, eT⟩ := X; obtain ⟨hx, hZ, hby, -, hown, -⟩ := cx; obtain ⟨dd, rfl⟩ := hd
  have A0 := A
  obtain ⟨c, Ar, hc, hlen⟩ := A
  have hs : c.slots.size = xs.length := by have := congrArg List.length hc; simpa using this
  have hn : n < 2 ^ 31 := by simp at hlen; omega
  subst hj
  have e1 := ofNat_clamp hn
  obtain ⟨T1, h1, X1, eh1, W1, st1⟩ := stB X0 hx hZ eT Ar (j := Int32.ofNat n) (x := x) (by rw [e1, hs]; intro q; rcases q with q | q; exact ofNat_neg hn q; omega) (g := mkF K.m pc L (.int x :: .int (Int32.ofNat n) :: .ref a :: S)) rfl rfl (hb hby dd)
  have hz1 : K.n0 ≤ h1.size := by rw [W1.size]; exact hz
  have N1 := Fr.snoc X1 N ge
  rw [e1] at W1
  exact Run.st st1 (k T1 h1 ⟨_, X1, N1, hz1, eh1⟩ W1 (AI.set A0 W1))
theorem r_lastore {xs : List Int64} {a : Addr} {j : Int32} {x : Int64} (X : Sd K T h cl sl) (cx : Cx K y bytes mx rt R) (hd : Dc bytes pc .lastore 1 pc') (A : AJ K.Z h a xs) (n : Nat) (hj : j = Int32.ofNat n) (hl : n < xs.length) (ge : K.n0 ≤ a) (k : ∀ T' h', Sd K T' h' cl sl → Wr h h' a n (.long x) → AJ K.Z h' a (xs.set n x) → Run K Q T' (mkF K.m pc' L S)) : Run K Q T (mkF K.m pc L (.long x :: .int j :: .ref a :: S)) := by
  obtain ⟨locs, X0, N, hz, eT⟩ := X; obtain ⟨hx, hZ, hby, -, hown, -⟩ := cx; obtain ⟨dd, rfl⟩ := hd
  have A0 := A
  obtain ⟨c, Ar, hc, hlen⟩ := A
  have hs : c.slots.size = xs.length := by have := congrArg List.length hc; simpa using this
  have hn : n < 2 ^ 31 := by simp at hlen; omega
  subst hj
  have e1 := ofNat_clamp hn
  obtain ⟨T1, h1, X1, eh1, W1, st1⟩ := stJ X0 hx hZ eT Ar (j := Int32.ofNat n) (x := x) (by rw [e1, hs]; intro q; rcases q with q | q; exact ofNat_neg hn q; omega) (g := mkF K.m pc L (.long x :: .int (Int32.ofNat n) :: .ref a :: S)) rfl rfl (hb hby dd)
  have hz1 : K.n0 ≤ h1.size := by rw [W1.size]; exact hz
  have N1 := Fr.snoc X1 N ge
  rw [e1] at W1
  exact Run.st st1 (k T1 h1 ⟨_, X1, N1, hz1, eh1⟩ W1 (AJ.set A0 W1))
theorem r_newarray {aty : ArrayType} {a0 : Array Value} {z : Int32} (X : Sd K T h cl sl) (cx : Cx K y bytes mx rt R) (hd : Dc bytes pc (.newarray aty) 2 pc') (w : (Cond.arrayClass (newarray.typeOf aty)).before a0 K.Z = true) (n cap : Nat) (hj : z = Int32.ofNat n) (hcap : n ≤ cap) (hb8 : cap * 8 ≤ 536870912) (hc : cl + 1 ≤ R.cells) (hs : sl + cap ≤ R.slots)
    (k : ∀ T' h' a, a = h.size → K.n0 ≤ a → Sd K T' h' (cl + 1) (sl + cap) → Ext h h' → AV K.Z h' a (newarray.typeOf aty) (List.replicate n (defaultValue (newarray.typeOf aty))) → Run K Q T' (mkF K.m pc' L (.ref a :: S))) : Run K Q T (mkF K.m pc L (.int z :: S)) := by
  obtain ⟨locs, X0, N, hz, eT⟩ := X; obtain ⟨hx, hZ, hby, -, hown, -, -, hR, -⟩ := cx; obtain ⟨dd, rfl⟩ := hd
  have hn : n < 2 ^ 31 := by omega
  subst hj
  have e1 := ofNat_clamp hn
  obtain ⟨T1, h1, cA, X1, eh1, E1, A1, st1⟩ := newP X0 hx hZ w eT (g := mkF K.m pc L (.int (Int32.ofNat n) :: S)) rfl (hb hby dd) (n := Int32.ofNat n) rfl (ofNat_neg hn) (cap := cap) (by rw [e1]; exact hcap) hb8 (by rw [hR]; exact hc) (by rw [hR]; exact hs)
  refine Run.st st1 (k T1 h1 h.size rfl hz ⟨locs, X1, N, Nat.le_trans hz E1.1, eh1⟩ E1 ⟨_, A1, ?_, by simpa using hn⟩)
  simp [newA, e1]
theorem AI.new {ty : FieldType} {Z : State} {h : Heap} {a : Addr} {n : Nat} (A : AV Z h a ty (List.replicate n (.int 0))) : AI ty Z h a (List.replicate n 0) := by
  show AV Z h a ty _
  rw [List.map_replicate]; exact A
theorem AJ.new {Z : State} {h : Heap} {a : Addr} {n : Nat} (A : AV Z h a .long (List.replicate n (.long 0))) : AJ Z h a (List.replicate n 0) := by
  show AV Z h a .long _
  rw [List.map_replicate]; exact A
end Rules
/-! contracts and calls -/
def Con (l : Launch) (Z : State) (y : MethodName) (bytes : ByteArray) (mx : Nat) (rt : Option FieldType) (rm : Room) (as : Array Value) (h0 : Heap) (n0 : Nat) (Q : Option Value → Heap → Prop) : Prop :=
  ∀ ws, MetFree l y (head1 (Jvm.Cond.code y bytes mx rt :: ws) rm) (fun a U => a = as ∧ Z.Warmed39 U.vm ∧ U.heap = h0) (fun _ _ _ _ _ => True) (fun _ U o U' => ∃ v L, o = .returned v ∧ (Q v U'.heap ∧ Fr n0 L) ∧ FrameEnd U o U' L rm.cells rm.slots)
theorem Con.of {l : Launch} {Z : State} {y : MethodName} {bytes : ByteArray} {mx : Nat} {rt : Option FieldType} {rm : Room} {as : Array Value} {h0 : Heap} {n0 : Nat} {Q : Option Value → Heap → Prop} (hy : plainFor y = true) (Z0 : n0 ≤ h0.size)
    (body : ∀ K : KT, K.l = l → K.Z = Z → K.n0 = n0 → Cx K y bytes mx rt rm → ∀ T, Sd K T h0 0 0 → Run K Q T (entryFrame K.m as mx)) : Con l Z y bytes mx rt rm as h0 n0 Q := by
  intro ws
  refine MetFree.of_bodySF hy hisR ?_
  intro p e s m args below meth c s₁ Bd hml0 hP hK
  obtain ⟨rfl, hZ, hh⟩ := hP
  have hown : s.vm.findClass y.cls = some m.cls := findClass_of_methodNamed Bd.named
  have hnm := (name_of_methodNamed Bd.named Bd.method).1
  have X0 : Stand p l e rm s m args below meth c s₁ [] 0 0 := Stand.of_body Bd
  have e0 : s₁.heap = h0 := by rw [← hh, Bd.state]; rfl
  obtain ⟨s₂, v, L, h1, h2, h3, h4, h5, h6⟩ := body (p, l, e, rm, s, m, args, below, meth, c, Z, n0) rfl rfl rfl ⟨Bd.exec, hZ, Bd.bytes, hml0, hown, Bd.returns, Bd.notSynchronized, rfl, hnm⟩ s₁ ⟨[], X0, Fr.nil n0, Z0, e0⟩
  exact ⟨s₂, _, h1, h2, h3, v, L, rfl, ⟨h4, h5⟩, h6⟩
section Calls
variable {K : KT} {Q : Option Value → Heap → Prop} {T : State} {h : Heap} {cl sl : Nat} {y : MethodName} {bytes : ByteArray} {mx : Nat} {rt : Option FieldType} {R : Room} {pc pc' pt : Nat} {L : Array Slot}
theorem r_static {z : MethodName} {zb : ByteArray} {zm : Nat} {zr : Option FieldType} {rm : Room} {i : Nat} {a0 : Array Value} {Qz : Option Value → Heap → Prop} {St : List Value} (argsL rest : List Value) (X : Sd K T h cl sl) (cx : Cx K y bytes mx rt R) (hd : Dc bytes pc (.invokestatic i) 3 pc')
    (w1 : (Cond.methodLink y.cls i z).before a0 K.Z = true) (w2 : (Cond.static z).before a0 K.Z = true) (w3 : (Cond.initialized z.cls).before a0 K.Z = true) (w4 : (Cond.code z zb zm zr).before a0 K.Z = true) (hm : z.cls ≠ "java/lang/invoke/MethodHandle" ∧ z.cls ≠ "java/lang/invoke/VarHandle")
    (con : Con K.l K.Z z zb zm zr rm argsL.toArray h K.n0 Qz) (hpd : ∀ sig, parseMethodDescriptor z.desc = some sig → argsL.length = sig.parameters.length) (hSt : St = argsL.reverse ++ rest) (hsz : L.size = mx) (hf : rm.frames + 1 ≤ R.frames) (hl : (rest.map fun v => v.category).sum + (zm + 11) + rm.locals ≤ R.locals) (hc : cl + rm.cells ≤ R.cells) (hs : sl + rm.slots ≤ R.slots)
    (k : ∀ T' h' v, Sd K T' h' (cl + rm.cells) (sl + rm.slots) → Qz v h' → Run K Q T' (mkF K.m pc' L (v.toList ++ rest))) (hmono : ∀ v h', Qz v h' → h.size ≤ h'.size) : Run K Q T (mkF K.m pc L St) := by
  obtain ⟨locs, X0, N, hz, eT⟩ := X; obtain ⟨hx, hZ, hby, hml, hown, -, -, hR, -⟩ := cx; obtain ⟨dd, rfl⟩ := hd
  obtain ⟨v, _, ⟨T1, L1, k1, n1⟩, -, X1, ⟨Lc, ⟨hQ, hF⟩, l1, y1, z1⟩, st1⟩ := Jvm.LawKit.callS X0 hx (y := z) hown (mvT hZ w1) (mvT hZ w2) (mvT hZ w3) (mvT hZ w4) hm (backOf (W := (rest.map fun v => v.category).sum) (Q := fun v h L => Qz v h ∧ Fr K.n0 L) (con []) hZ w4 w3 (by rw [hR]; exact hf) (by rw [hR]; exact hl)) (g := mkF K.m pc L St) rfl (by rw [hml]; exact hsz) (argsL := argsL) (rest := rest) hpd hSt (by show 2 * 0 + _ ≤ _; omega) (hb hby dd) (fun _ _ => ⟨rfl, eT, by rw [hR]; exact hc, by rw [hR]; exact hs⟩)
  dsimp only [Pt.U, Pt.locs, Pt.cells, Pt.slots] at X1 l1 y1 z1 st1 hQ
  subst l1 y1 z1
  exact Run.st st1 (k T1 _ v ⟨_, X1, Fr.app N hF, Nat.le_trans hz (hmono _ _ hQ), rfl⟩ hQ)
theorem r_virtual {z : MethodName} {C : String} {zb : ByteArray} {zm : Nat} {zr : Option FieldType} {rm : Room} {i : Nat} {a : Addr} {a0 : Array Value} {Qz : Option Value → Heap → Prop} {St : List Value} (argsL rest : List Value) (X : Sd K T h cl sl) (cx : Cx K y bytes mx rt R) (hd : Dc bytes pc (.invokevirtual i) 3 pc') (E : Exa K.Z h a C)
    (w1 : (Cond.methodLink y.cls i z).before a0 K.Z = true) (w2 : (Cond.declares z).before a0 K.Z = true) (w3 : (Cond.selects C z z).before a0 K.Z = true) (w4 : (Cond.instanceMethod z).before a0 K.Z = true) (w5 : (Cond.initialized z.cls).before a0 K.Z = true) (w6 : (Cond.code z zb zm zr).before a0 K.Z = true) (hm : z.cls ≠ "java/lang/invoke/MethodHandle" ∧ z.cls ≠ "java/lang/invoke/VarHandle")
    (con : Con K.l K.Z z zb zm zr rm (.ref a :: argsL).toArray h K.n0 Qz) (hpd : ∀ sig, parseMethodDescriptor z.desc = some sig → argsL.length = sig.parameters.length) (hSt : St = argsL.reverse ++ .ref a :: rest) (hsz : L.size = mx) (hf : rm.frames + 1 ≤ R.frames) (hl : (rest.map fun v => v.category).sum + (zm + 11) + rm.locals ≤ R.locals) (hc : cl + rm.cells ≤ R.cells) (hs : sl + rm.slots ≤ R.slots)
    (k : ∀ T' h' v, Sd K T' h' (cl + rm.cells) (sl + rm.slots) → Qz v h' → Run K Q T' (mkF K.m pc' L (v.toList ++ rest))) (hmono : ∀ v h', Qz v h' → h.size ≤ h'.size) : Run K Q T (mkF K.m pc L St) := by
  obtain ⟨locs, X0, N, hz, eT⟩ := X; obtain ⟨hx, hZ, hby, hml, hown, -, -, hR, -⟩ := cx; obtain ⟨dd, rfl⟩ := hd
  obtain ⟨cq, kq, qa, qb, qc⟩ := isOf hZ eT E
  obtain ⟨v, _, ⟨T1, L1, k1, n1⟩, -, X1, ⟨Lc, ⟨hQ, hF⟩, l1, y1, z1⟩, st1⟩ := X0.virtualBack hx (y := z) (z := z) hown (mvT hZ w1) (mvT hZ w2) (notFace_of_selects (args := #[]) (mvT hZ w3)) (mvT hZ w3) (mvT hZ w4) hm (backOf (W := (rest.map fun v => v.category).sum) (Q := fun v h L => Qz v h ∧ Fr K.n0 L) (con []) hZ w6 w5 (by rw [hR]; exact hf) (by rw [hR]; exact hl)) qa qc (g := mkF K.m pc L St) rfl (by rw [hml]; exact hsz) (Steps.refl _) (argsL := argsL) (rest := rest) hpd hSt (by show 2 * 0 + _ ≤ _; omega) (hb hby dd) (fun _ _ => ⟨rfl, eT, by rw [hR]; exact hc, by rw [hR]; exact hs⟩)
  dsimp only [Pt.U, Pt.locs, Pt.cells, Pt.slots] at X1 l1 y1 z1 st1 hQ
  subst l1 y1 z1
  exact Run.st (fun t q => st1.trans q) (k T1 _ v ⟨_, X1, Fr.app N hF, Nat.le_trans hz (hmono _ _ hQ), rfl⟩ hQ)
theorem r_private {z z' : MethodName} {C C' : String} {zb : ByteArray} {zm : Nat} {zr : Option FieldType} {rm : Room} {i : Nat} {a : Addr} {a0 : Array Value} {Qz : Option Value → Heap → Prop} {St : List Value} (argsL rest : List Value) (X : Sd K T h cl sl) (cx : Cx K y bytes mx rt R) (hd : Dc bytes pc (.invokevirtual i) 3 pc') (E : Exa K.Z h a C)
    (w1 : (Cond.methodLink y.cls i z).before a0 K.Z = true) (w2 : (Cond.selects C' z' z').before a0 K.Z = true) (w3 : (Cond.instanceMethod z).before a0 K.Z = true) (w4 : (Cond.privateMethod z).before a0 K.Z = true) (w5 : (Cond.initialized z.cls).before a0 K.Z = true) (w6 : (Cond.code z zb zm zr).before a0 K.Z = true) (hzz : z'.cls = z.cls) (hm : z.cls ≠ "java/lang/invoke/MethodHandle" ∧ z.cls ≠ "java/lang/invoke/VarHandle")
    (con : Con K.l K.Z z zb zm zr rm (.ref a :: argsL).toArray h K.n0 Qz) (hpd : ∀ sig, parseMethodDescriptor z.desc = some sig → argsL.length = sig.parameters.length) (hSt : St = argsL.reverse ++ .ref a :: rest) (hsz : L.size = mx) (hf : rm.frames + 1 ≤ R.frames) (hl : (rest.map fun v => v.category).sum + (zm + 11) + rm.locals ≤ R.locals) (hc : cl + rm.cells ≤ R.cells) (hs : sl + rm.slots ≤ R.slots)
    (k : ∀ T' h' v, Sd K T' h' (cl + rm.cells) (sl + rm.slots) → Qz v h' → Run K Q T' (mkF K.m pc' L (v.toList ++ rest))) (hmono : ∀ v h', Qz v h' → h.size ≤ h'.size) : Run K Q T (mkF K.m pc L St) := by
  obtain ⟨locs, X0, N, hz, eT⟩ := X; obtain ⟨hx, hZ, hby, hml, hown, -, -, hR, -⟩ := cx; obtain ⟨dd, rfl⟩ := hd
  obtain ⟨cq, qa, qb⟩ := E.cell
  have u2 : (Cond.selects C' z' z').before K.args K.s = true := mvT hZ w2
  have u3 : (Cond.instanceMethod z).before K.args K.s = true := mvT hZ w3
  obtain ⟨c2, r2, m2, q1, q2, q3, q4, kP, hkP, hkPi⟩ := Cond.selects_spec u2
  have hc2 := findClass_of_methodNamed q3
  rw [hzz] at hc2
  have hpriv := Cond.privateMethod_at (mvP hZ w4 (args := K.args))
  have hsel := selects_self_of_private hc2 hkP hkPi hpriv u3 hm
  obtain ⟨v, _, ⟨T1, L1, k1, n1⟩, -, X1, ⟨Lc, ⟨hQ, hF⟩, l1, y1, z1⟩, st1⟩ := X0.privateBack hx (y := z) hown (mvT hZ w1) u3 hsel hpriv (mvT hZ w6) hm (backOf (W := (rest.map fun v => v.category).sum) (Q := fun v h L => Qz v h ∧ Fr K.n0 L) (con []) hZ w6 w5 (by rw [hR]; exact hf) (by rw [hR]; exact hl)) (g := mkF K.m pc L St) rfl (by rw [hml]; exact hsz) (Steps.refl _) (a := a) (by rw [eT]; exact qa) qb (argsL := argsL) (rest := rest) hpd hSt (by show 2 * 0 + _ ≤ _; omega) (hb hby dd) (fun _ _ => ⟨rfl, eT, by rw [hR]; exact hc, by rw [hR]; exact hs⟩)
  dsimp only [Pt.U, Pt.locs, Pt.cells, Pt.slots] at X1 l1 y1 z1 st1 hQ
  subst l1 y1 z1
  exact Run.st (fun t q => st1.trans q) (k T1 _ v ⟨_, X1, Fr.app N hF, Nat.le_trans hz (hmono _ _ hQ), rfl⟩ hQ)
theorem r_special {z : MethodName} {zb : ByteArray} {zm : Nat} {rm : Room} {i : Nat} {a : Addr} {a0 : Array Value} {Qz : Option Value → Heap → Prop} {St : List Value} (argsL rest : List Value) (X : Sd K T h cl sl) (cx : Cx K y bytes mx rt R) (hd : Dc bytes pc (.invokespecial i) 3 pc') (hzn : z.name = "<init>")
    (w1 : (Cond.methodLink y.cls i z).before a0 K.Z = true) (w2 : (Cond.instanceMethod z).before a0 K.Z = true) (w3 : (Cond.initialized z.cls).before a0 K.Z = true) (w4 : (Cond.code z zb zm none).before a0 K.Z = true) (hm : z.cls ≠ "java/lang/invoke/MethodHandle" ∧ z.cls ≠ "java/lang/invoke/VarHandle")
    (con : Con K.l K.Z z zb zm none rm (.ref a :: argsL).toArray h K.n0 Qz) (hpd : ∀ sig, parseMethodDescriptor z.desc = some sig → argsL.length = sig.parameters.length) (hSt : St = argsL.reverse ++ .ref a :: rest) (hsz : L.size = mx) (hf : rm.frames + 1 ≤ R.frames) (hl : (rest.map fun v => v.category).sum + (zm + 11) + rm.locals ≤ R.locals) (hc : cl + rm.cells ≤ R.cells) (hs : sl + rm.slots ≤ R.slots)
    (k : ∀ T' h' v, Sd K T' h' (cl + rm.cells) (sl + rm.slots) → Qz v h' → Run K Q T' (mkF K.m pc' L (v.toList ++ rest))) (hmono : ∀ v h', Qz v h' → h.size ≤ h'.size) : Run K Q T (mkF K.m pc L St) := by
  obtain ⟨locs, X0, N, hz, eT⟩ := X; obtain ⟨hx, hZ, hby, hml, hown, -, -, hR, -⟩ := cx; obtain ⟨dd, rfl⟩ := hd
  obtain ⟨v, _, ⟨T1, L1, k1, n1⟩, -, X1, ⟨Lc, ⟨hQ, hF⟩, l1, y1, z1⟩, st1⟩ := X0.specialBack hx (y := z) hzn hown (mvT hZ w1) (mvT hZ w2) (mvT hZ w4) hm (backOf (W := (rest.map fun v => v.category).sum) (Q := fun v h L => Qz v h ∧ Fr K.n0 L) (con []) hZ w4 w3 (by rw [hR]; exact hf) (by rw [hR]; exact hl)) (g := mkF K.m pc L St) rfl (by rw [hml]; exact hsz) (Steps.refl _) (a := a) (argsL := argsL) (rest := rest) hpd hSt (by show 2 * 0 + _ ≤ _; omega) (hb hby dd) (fun _ _ => ⟨rfl, eT, by rw [hR]; exact hc, by rw [hR]; exact hs⟩)
  dsimp only [Pt.U, Pt.locs, Pt.cells, Pt.slots] at X1 l1 y1 z1 st1 hQ
  subst l1 y1 z1
  exact Run.st (fun t q => st1.trans q) (k T1 _ v ⟨_, X1, Fr.app N hF, Nat.le_trans hz (hmono _ _ hQ), rfl⟩ hQ)
end Calls
end Jvm.Own
namespace Jvm.Pilot.@@N@@
open Jvm Jvm.ClassFile Sem Op Lib Jvm.Free Jvm.Stand Jvm.LawKit Jvm.RoadKit Bundle Jvm.Own Jvm.Pilot.@@N@@.Jvm.D
theorem pd_0 : parseMethodDescriptor "([B)Z" = some ⟨[.array .byte], some (.boolean)⟩ := by decide +kernel
def own_jpeg (bs : List Int32) : Int32 :=
  match bs with
  | a :: b :: c :: _ => if a = -1 ∧ b = -40 ∧ c = -1 then 1 else 0
  | _ => 0
theorem own_m7 (x : Int32) : x &&& 7 = 0 ∨ x &&& 7 = 1 ∨ x &&& 7 = 2 ∨ x &&& 7 = 3 ∨ x &&& 7 = 4 ∨ x &&& 7 = 5 ∨ x &&& 7 = 6 ∨ x &&& 7 = 7 := by
  have h : (x &&& 7).toBitVec.toNat ≤ 7 := by
    simp only [Int32.toBitVec_and, BitVec.toNat_and]; exact Nat.and_le_right
  have e : (x &&& 7) = Int32.ofNat (x &&& 7).toBitVec.toNat := by
    apply Int32.toBitVec_inj.mp
    show _ = BitVec.ofNat 32 _
    rw [BitVec.ofNat_toNat]; simp
  rw [e]
  generalize (x &&& 7).toBitVec.toNat = n at h
  have : n = 0 ∨ n = 1 ∨ n = 2 ∨ n = 3 ∨ n = 4 ∨ n = 5 ∨ n = 6 ∨ n = 7 := by omega
  rcases this with rfl | rfl | rfl | rfl | rfl | rfl | rfl | rfl <;> decide
def own_b (v : Int32) : Prop := ∃ n : Nat, n < 256 ∧ v = Int32.ofNat n
theorem own_b255 (x : Int32) : own_b (x &&& 255) := by
  refine ⟨(x &&& 255).toBitVec.toNat, ?_, ?_⟩
  · simp only [Int32.toBitVec_and, BitVec.toNat_and]
    exact Nat.lt_of_le_of_lt Nat.and_le_right (by decide)
  · apply Int32.toBitVec_inj.mp
    show _ = BitVec.ofNat 32 _
    rw [BitVec.ofNat_toNat]; simp
theorem own_byte {v : Int32} (h : own_b v) : (nar .byte (Int8.toInt32 (Int32.toInt8 v)) = -1 ↔ v = 255) ∧ (nar .byte (Int8.toInt32 (Int32.toInt8 v)) = -40 ↔ v = 216) := by
  obtain ⟨n, hn, rfl⟩ := h
  have : ∀ n : Fin 256, (nar .byte (Int8.toInt32 (Int32.toInt8 (Int32.ofNat n.val))) = -1 ↔ Int32.ofNat n.val = 255) ∧ (nar .byte (Int8.toInt32 (Int32.toInt8 (Int32.ofNat n.val))) = -40 ↔ Int32.ofNat n.val = 216) := by decide +kernel
  exact this ⟨n, hn⟩
theorem own_jp {a b c : Int32} (ha : own_b a) (hb : own_b b) (hc : own_b c) (tl : List Int32) : own_jpeg (nar .byte (Int8.toInt32 (Int32.toInt8 a)) :: nar .byte (Int8.toInt32 (Int32.toInt8 b)) :: nar .byte (Int8.toInt32 (Int32.toInt8 c)) :: tl) = if a = 255 ∧ b = 216 ∧ c = 255 then 1 else 0 := by
  simp only [own_jpeg, (own_byte ha).1, (own_byte hb).2, (own_byte hc).1]
theorem own_len3 {n : Nat} (h : n + 3 < 2 ^ 31) : ¬ Int32.ofNat (n + 3) < 3 := by
  rw [Int32.lt_iff_toInt_lt, Int32.toInt_ofNat_of_lt h]
  show ¬ ((n + 3 : Nat) : Int) < 3
  omega
theorem P42m2_0 : Dc prog_42_method_2_code 0 (.aload_n 0) 1 1 := ⟨(by decide +kernel), rfl⟩
theorem P42m2_1 : Dc prog_42_method_2_code 1 (.arraylength) 1 2 := ⟨(by decide +kernel), rfl⟩
theorem P42m2_2 : Dc prog_42_method_2_code 2 (.iconst 3) 1 3 := ⟨(by decide +kernel), rfl⟩
theorem P42m2_3 : Db prog_42_method_2_code 3 (.if_icmp .lt 29) (29) 6 32 := ⟨(by decide +kernel), rfl, by decide, by decide⟩
theorem P42m2_6 : Dc prog_42_method_2_code 6 (.aload_n 0) 1 7 := ⟨(by decide +kernel), rfl⟩
theorem P42m2_7 : Dc prog_42_method_2_code 7 (.iconst 0) 1 8 := ⟨(by decide +kernel), rfl⟩
theorem P42m2_8 : Dc prog_42_method_2_code 8 (.baload) 1 9 := ⟨(by decide +kernel), rfl⟩
theorem P42m2_9 : Dc prog_42_method_2_code 9 (.iconst (-1)) 1 10 := ⟨(by decide +kernel), rfl⟩
theorem P42m2_10 : Db prog_42_method_2_code 10 (.if_icmp .ne 22) (22) 13 32 := ⟨(by decide +kernel), rfl, by decide, by decide⟩
theorem P42m2_13 : Dc prog_42_method_2_code 13 (.aload_n 0) 1 14 := ⟨(by decide +kernel), rfl⟩
theorem P42m2_14 : Dc prog_42_method_2_code 14 (.iconst 1) 1 15 := ⟨(by decide +kernel), rfl⟩
theorem P42m2_15 : Dc prog_42_method_2_code 15 (.baload) 1 16 := ⟨(by decide +kernel), rfl⟩
theorem P42m2_16 : Dc prog_42_method_2_code 16 (.bipush (-40)) 2 18 := ⟨(by decide +kernel), rfl⟩
theorem P42m2_18 : Db prog_42_method_2_code 18 (.if_icmp .ne 14) (14) 21 32 := ⟨(by decide +kernel), rfl, by decide, by decide⟩
theorem P42m2_21 : Dc prog_42_method_2_code 21 (.aload_n 0) 1 22 := ⟨(by decide +kernel), rfl⟩
theorem P42m2_22 : Dc prog_42_method_2_code 22 (.iconst 2) 1 23 := ⟨(by decide +kernel), rfl⟩
theorem P42m2_23 : Dc prog_42_method_2_code 23 (.baload) 1 24 := ⟨(by decide +kernel), rfl⟩
theorem P42m2_24 : Dc prog_42_method_2_code 24 (.iconst (-1)) 1 25 := ⟨(by decide +kernel), rfl⟩
theorem P42m2_25 : Db prog_42_method_2_code 25 (.if_icmp .ne 7) (7) 28 32 := ⟨(by decide +kernel), rfl, by decide, by decide⟩
theorem P42m2_28 : Dc prog_42_method_2_code 28 (.iconst 1) 1 29 := ⟨(by decide +kernel), rfl⟩
theorem P42m2_29 : Db prog_42_method_2_code 29 (.goto 4) (4) 32 33 := ⟨(by decide +kernel), rfl, by decide, by decide⟩
theorem P42m2_32 : Dc prog_42_method_2_code 32 (.iconst 0) 1 33 := ⟨(by decide +kernel), rfl⟩
theorem P42m2_33 : Dc prog_42_method_2_code 33 (.ireturn) 1 34 := ⟨(by decide +kernel), rfl⟩
theorem ef_P42m2 (m : MethodId) (r : Addr) : entryFrame m #[(.ref r)] 1 = mkF m 0 #[.val (.ref r)] [] := by first | (simp [entryFrame, mkF, argsToLocals, Value.category]; done) | rfl
set_option maxRecDepth 65536 in
set_option maxHeartbeats 40000000 in
theorem con_P42m2 (l : Launch) (Z : State) (a0 : Array Value) (hw : Tb tables_1 a0 Z) (r : Addr) (h0 : Heap) (n0 : Nat) (Z0 : n0 ≤ h0.size) (bs : List Int32) (A_r : AI .byte Z h0 r bs) :
    Con l Z site_214 prog_42_method_2_code 1 (some (.boolean)) ({ frames := 0, cells := 0, slots := 0, locals := 0 } : Room) #[(.ref r)] h0 n0 (fun v h => h0 = h ∧ v = some (.int (own_jpeg bs))) := by
  refine Con.of (plainFor_of_name (by decide +kernel)) Z0 ?_
  intro K hl hZ hn cx T0 X0
  subst hl hZ hn
  refine Run.cast (ef_P42m2 K.m r) ?_
  match bs, A_r with
  | [], A_r =>
    refine r_aloadN X0 cx P42m2_0 rfl ?_
    refine r_alen X0 cx P42m2_1 A_r (0) rfl ?_
    refine r_iconst (3) X0 cx P42m2_2 rfl ?_
    refine r_icmplt X0 cx P42m2_3 (fun _ => ?_) (fun c => absurd c (by decide))
    refine r_iconst (0) X0 cx P42m2_32 rfl ?_
    refine r_zreturn X0 cx P42m2_33 (by decide) (by decide) ?_
    exact ⟨rfl, rfl⟩
  | [b0], A_r =>
    refine r_aloadN X0 cx P42m2_0 rfl ?_
    refine r_alen X0 cx P42m2_1 A_r (1) rfl ?_
    refine r_iconst (3) X0 cx P42m2_2 rfl ?_
    refine r_icmplt X0 cx P42m2_3 (fun _ => ?_) (fun c => absurd c (by decide))
    refine r_iconst (0) X0 cx P42m2_32 rfl ?_
    refine r_zreturn X0 cx P42m2_33 (by decide) (by decide) ?_
    exact ⟨rfl, rfl⟩
  | [b0, b1], A_r =>
    refine r_aloadN X0 cx P42m2_0 rfl ?_
    refine r_alen X0 cx P42m2_1 A_r (2) rfl ?_
    refine r_iconst (3) X0 cx P42m2_2 rfl ?_
    refine r_icmplt X0 cx P42m2_3 (fun _ => ?_) (fun c => absurd c (by decide))
    refine r_iconst (0) X0 cx P42m2_32 rfl ?_
    refine r_zreturn X0 cx P42m2_33 (by decide) (by decide) ?_
    exact ⟨rfl, rfl⟩
  | b0 :: b1 :: b2 :: tl, A_r =>
    refine r_aloadN X0 cx P42m2_0 rfl ?_
    refine r_alen X0 cx P42m2_1 A_r (tl.length + 3) rfl ?_
    refine r_iconst (3) X0 cx P42m2_2 rfl ?_
    refine r_icmplt X0 cx P42m2_3 (fun c3 => ?_) (fun c3 => ?_)
    · exact absurd c3 (own_len3 A_r.len)
    · refine r_aloadN X0 cx P42m2_6 rfl ?_
      refine r_iconst (0) X0 cx P42m2_7 rfl ?_
      refine r_baload X0 cx P42m2_8 A_r (0) rfl (v := b0) rfl ?_
      refine r_iconst (-1) X0 cx P42m2_9 rfl ?_
      refine r_icmpne X0 cx P42m2_10 (fun c10 => ?_) (fun c10 => ?_)
      · refine r_iconst (0) X0 cx P42m2_32 rfl ?_
        refine r_zreturn X0 cx P42m2_33 (by decide) (by decide) ?_
        exact ⟨rfl, by simp_all [own_jpeg, nar]⟩
      · refine r_aloadN X0 cx P42m2_13 rfl ?_
        refine r_iconst (1) X0 cx P42m2_14 rfl ?_
        refine r_baload X0 cx P42m2_15 A_r (1) rfl (v := b1) rfl ?_
        refine r_bipush (-40) X0 cx P42m2_16 rfl ?_
        refine r_icmpne X0 cx P42m2_18 (fun c18 => ?_) (fun c18 => ?_)
        · refine r_iconst (0) X0 cx P42m2_32 rfl ?_
          refine r_zreturn X0 cx P42m2_33 (by decide) (by decide) ?_
          exact ⟨rfl, by simp_all [own_jpeg, nar]⟩
        · refine r_aloadN X0 cx P42m2_21 rfl ?_
          refine r_iconst (2) X0 cx P42m2_22 rfl ?_
          refine r_baload X0 cx P42m2_23 A_r (2) rfl (v := b2) rfl ?_
          refine r_iconst (-1) X0 cx P42m2_24 rfl ?_
          refine r_icmpne X0 cx P42m2_25 (fun c25 => ?_) (fun c25 => ?_)
          · refine r_iconst (0) X0 cx P42m2_32 rfl ?_
            refine r_zreturn X0 cx P42m2_33 (by decide) (by decide) ?_
            exact ⟨rfl, by simp_all [own_jpeg, nar]⟩
          · refine r_iconst (1) X0 cx P42m2_28 rfl ?_
            refine r_goto X0 cx P42m2_29 ?_
            refine r_zreturn X0 cx P42m2_33 (by decide) (by decide) ?_
            exact ⟨rfl, by simp_all [own_jpeg, nar]⟩
theorem L_0 : Dc code 0 (.iload_n 0) 1 1 := ⟨at_0, rfl⟩
theorem L_1 : Dc code 1 (.bipush 7) 2 3 := ⟨at_1, rfl⟩
theorem L_3 : Dc code 3 (.iand) 1 4 := ⟨at_3, rfl⟩
theorem L_4 : Dc code 4 (.istore 7) 2 6 := ⟨at_4, rfl⟩
theorem L_6 : Dc code 6 (.iload_n 1) 1 7 := ⟨at_6, rfl⟩
theorem L_7 : Dc code 7 (.iconst 1) 1 8 := ⟨at_7, rfl⟩
theorem L_8 : Dc code 8 (.iand) 1 9 := ⟨at_8, rfl⟩
theorem L_9 : Db code 9 (.ifCond .eq 9) (9) 12 18 := ⟨at_9, rfl, by decide, by decide⟩
theorem L_12 : Dc code 12 (.sipush 255) 3 15 := ⟨at_12, rfl⟩
theorem L_15 : Db code 15 (.goto 8) (8) 18 23 := ⟨at_15, rfl, by decide, by decide⟩
theorem L_18 : Dc code 18 (.iload_n 2) 1 19 := ⟨at_18, rfl⟩
theorem L_19 : Dc code 19 (.sipush 255) 3 22 := ⟨at_19, rfl⟩
theorem L_22 : Dc code 22 (.iand) 1 23 := ⟨at_22, rfl⟩
theorem L_23 : Dc code 23 (.istore 8) 2 25 := ⟨at_23, rfl⟩
theorem L_25 : Dc code 25 (.iload_n 1) 1 26 := ⟨at_25, rfl⟩
theorem L_26 : Dc code 26 (.iconst 2) 1 27 := ⟨at_26, rfl⟩
theorem L_27 : Dc code 27 (.iand) 1 28 := ⟨at_27, rfl⟩
theorem L_28 : Db code 28 (.ifCond .eq 9) (9) 31 37 := ⟨at_28, rfl, by decide, by decide⟩
theorem L_31 : Dc code 31 (.sipush 216) 3 34 := ⟨at_31, rfl⟩
theorem L_34 : Db code 34 (.goto 8) (8) 37 42 := ⟨at_34, rfl, by decide, by decide⟩
theorem L_37 : Dc code 37 (.iload_n 3) 1 38 := ⟨at_37, rfl⟩
theorem L_38 : Dc code 38 (.sipush 255) 3 41 := ⟨at_38, rfl⟩
theorem L_41 : Dc code 41 (.iand) 1 42 := ⟨at_41, rfl⟩
theorem L_42 : Dc code 42 (.istore 9) 2 44 := ⟨at_42, rfl⟩
theorem L_44 : Dc code 44 (.iload_n 1) 1 45 := ⟨at_44, rfl⟩
theorem L_45 : Dc code 45 (.iconst 4) 1 46 := ⟨at_45, rfl⟩
theorem L_46 : Dc code 46 (.iand) 1 47 := ⟨at_46, rfl⟩
theorem L_47 : Db code 47 (.ifCond .eq 9) (9) 50 56 := ⟨at_47, rfl, by decide, by decide⟩
theorem L_50 : Dc code 50 (.sipush 255) 3 53 := ⟨at_50, rfl⟩
theorem L_53 : Db code 53 (.goto 9) (9) 56 62 := ⟨at_53, rfl, by decide, by decide⟩
theorem L_56 : Dc code 56 (.iload 4) 2 58 := ⟨at_56, rfl⟩
theorem L_58 : Dc code 58 (.sipush 255) 3 61 := ⟨at_58, rfl⟩
theorem L_61 : Dc code 61 (.iand) 1 62 := ⟨at_61, rfl⟩
theorem L_62 : Dc code 62 (.istore 10) 2 64 := ⟨at_62, rfl⟩
theorem L_64 : Dc code 64 (.iload 7) 2 66 := ⟨at_64, rfl⟩
theorem L_66 : Dc code 66 (.newarray .byte) 2 68 := ⟨at_66, rfl⟩
theorem L_68 : Dc code 68 (.astore 11) 2 70 := ⟨at_68, rfl⟩
theorem L_70 : Dc code 70 (.iload 7) 2 72 := ⟨at_70, rfl⟩
theorem L_72 : Db code 72 (.ifCond .le 10) (10) 75 82 := ⟨at_72, rfl, by decide, by decide⟩
theorem L_75 : Dc code 75 (.aload 11) 2 77 := ⟨at_75, rfl⟩
theorem L_77 : Dc code 77 (.iconst 0) 1 78 := ⟨at_77, rfl⟩
theorem L_78 : Dc code 78 (.iload 8) 2 80 := ⟨at_78, rfl⟩
theorem L_80 : Dc code 80 (.i2b) 1 81 := ⟨at_80, rfl⟩
theorem L_81 : Dc code 81 (.bastore) 1 82 := ⟨at_81, rfl⟩
theorem L_82 : Dc code 82 (.iload 7) 2 84 := ⟨at_82, rfl⟩
theorem L_84 : Dc code 84 (.iconst 1) 1 85 := ⟨at_84, rfl⟩
theorem L_85 : Db code 85 (.if_icmp .le 10) (10) 88 95 := ⟨at_85, rfl, by decide, by decide⟩
theorem L_88 : Dc code 88 (.aload 11) 2 90 := ⟨at_88, rfl⟩
theorem L_90 : Dc code 90 (.iconst 1) 1 91 := ⟨at_90, rfl⟩
theorem L_91 : Dc code 91 (.iload 9) 2 93 := ⟨at_91, rfl⟩
theorem L_93 : Dc code 93 (.i2b) 1 94 := ⟨at_93, rfl⟩
theorem L_94 : Dc code 94 (.bastore) 1 95 := ⟨at_94, rfl⟩
theorem L_95 : Dc code 95 (.iload 7) 2 97 := ⟨at_95, rfl⟩
theorem L_97 : Dc code 97 (.iconst 2) 1 98 := ⟨at_97, rfl⟩
theorem L_98 : Db code 98 (.if_icmp .le 10) (10) 101 108 := ⟨at_98, rfl, by decide, by decide⟩
theorem L_101 : Dc code 101 (.aload 11) 2 103 := ⟨at_101, rfl⟩
theorem L_103 : Dc code 103 (.iconst 2) 1 104 := ⟨at_103, rfl⟩
theorem L_104 : Dc code 104 (.iload 10) 2 106 := ⟨at_104, rfl⟩
theorem L_106 : Dc code 106 (.i2b) 1 107 := ⟨at_106, rfl⟩
theorem L_107 : Dc code 107 (.bastore) 1 108 := ⟨at_107, rfl⟩
theorem L_108 : Dc code 108 (.iload 7) 2 110 := ⟨at_108, rfl⟩
theorem L_110 : Dc code 110 (.iconst 3) 1 111 := ⟨at_110, rfl⟩
theorem L_111 : Db code 111 (.if_icmp .le 11) (11) 114 122 := ⟨at_111, rfl, by decide, by decide⟩
theorem L_114 : Dc code 114 (.aload 11) 2 116 := ⟨at_114, rfl⟩
theorem L_116 : Dc code 116 (.iconst 3) 1 117 := ⟨at_116, rfl⟩
theorem L_117 : Dc code 117 (.lload 5) 2 119 := ⟨at_117, rfl⟩
theorem L_119 : Dc code 119 (.l2i) 1 120 := ⟨at_119, rfl⟩
theorem L_120 : Dc code 120 (.i2b) 1 121 := ⟨at_120, rfl⟩
theorem L_121 : Dc code 121 (.bastore) 1 122 := ⟨at_121, rfl⟩
theorem L_122 : Dc code 122 (.iload 7) 2 124 := ⟨at_122, rfl⟩
theorem L_124 : Dc code 124 (.iconst 4) 1 125 := ⟨at_124, rfl⟩
theorem L_125 : Db code 125 (.if_icmp .le 14) (14) 128 139 := ⟨at_125, rfl, by decide, by decide⟩
theorem L_128 : Dc code 128 (.aload 11) 2 130 := ⟨at_128, rfl⟩
theorem L_130 : Dc code 130 (.iconst 4) 1 131 := ⟨at_130, rfl⟩
theorem L_131 : Dc code 131 (.lload 5) 2 133 := ⟨at_131, rfl⟩
theorem L_133 : Dc code 133 (.bipush 8) 2 135 := ⟨at_133, rfl⟩
theorem L_135 : Dc code 135 (.lushr) 1 136 := ⟨at_135, rfl⟩
theorem L_136 : Dc code 136 (.l2i) 1 137 := ⟨at_136, rfl⟩
theorem L_137 : Dc code 137 (.i2b) 1 138 := ⟨at_137, rfl⟩
theorem L_138 : Dc code 138 (.bastore) 1 139 := ⟨at_138, rfl⟩
theorem L_139 : Dc code 139 (.iload 7) 2 141 := ⟨at_139, rfl⟩
theorem L_141 : Dc code 141 (.iconst 5) 1 142 := ⟨at_141, rfl⟩
theorem L_142 : Db code 142 (.if_icmp .le 14) (14) 145 156 := ⟨at_142, rfl, by decide, by decide⟩
theorem L_145 : Dc code 145 (.aload 11) 2 147 := ⟨at_145, rfl⟩
theorem L_147 : Dc code 147 (.iconst 5) 1 148 := ⟨at_147, rfl⟩
theorem L_148 : Dc code 148 (.lload 5) 2 150 := ⟨at_148, rfl⟩
theorem L_150 : Dc code 150 (.bipush 16) 2 152 := ⟨at_150, rfl⟩
theorem L_152 : Dc code 152 (.lushr) 1 153 := ⟨at_152, rfl⟩
theorem L_153 : Dc code 153 (.l2i) 1 154 := ⟨at_153, rfl⟩
theorem L_154 : Dc code 154 (.i2b) 1 155 := ⟨at_154, rfl⟩
theorem L_155 : Dc code 155 (.bastore) 1 156 := ⟨at_155, rfl⟩
theorem L_156 : Dc code 156 (.iload 7) 2 158 := ⟨at_156, rfl⟩
theorem L_158 : Dc code 158 (.bipush 6) 2 160 := ⟨at_158, rfl⟩
theorem L_160 : Db code 160 (.if_icmp .le 15) (15) 163 175 := ⟨at_160, rfl, by decide, by decide⟩
theorem L_163 : Dc code 163 (.aload 11) 2 165 := ⟨at_163, rfl⟩
theorem L_165 : Dc code 165 (.bipush 6) 2 167 := ⟨at_165, rfl⟩
theorem L_167 : Dc code 167 (.lload 5) 2 169 := ⟨at_167, rfl⟩
theorem L_169 : Dc code 169 (.bipush 24) 2 171 := ⟨at_169, rfl⟩
theorem L_171 : Dc code 171 (.lushr) 1 172 := ⟨at_171, rfl⟩
theorem L_172 : Dc code 172 (.l2i) 1 173 := ⟨at_172, rfl⟩
theorem L_173 : Dc code 173 (.i2b) 1 174 := ⟨at_173, rfl⟩
theorem L_174 : Dc code 174 (.bastore) 1 175 := ⟨at_174, rfl⟩
theorem L_175 : Dc code 175 (.iload 7) 2 177 := ⟨at_175, rfl⟩
theorem L_177 : Dc code 177 (.iconst 3) 1 178 := ⟨at_177, rfl⟩
theorem L_178 : Db code 178 (.if_icmp .lt 31) (31) 181 209 := ⟨at_178, rfl, by decide, by decide⟩
theorem L_181 : Dc code 181 (.iload 8) 2 183 := ⟨at_181, rfl⟩
theorem L_183 : Dc code 183 (.sipush 255) 3 186 := ⟨at_183, rfl⟩
theorem L_186 : Db code 186 (.if_icmp .ne 23) (23) 189 209 := ⟨at_186, rfl, by decide, by decide⟩
theorem L_189 : Dc code 189 (.iload 9) 2 191 := ⟨at_189, rfl⟩
theorem L_191 : Dc code 191 (.sipush 216) 3 194 := ⟨at_191, rfl⟩
theorem L_194 : Db code 194 (.if_icmp .ne 15) (15) 197 209 := ⟨at_194, rfl, by decide, by decide⟩
theorem L_197 : Dc code 197 (.iload 10) 2 199 := ⟨at_197, rfl⟩
theorem L_199 : Dc code 199 (.sipush 255) 3 202 := ⟨at_199, rfl⟩
theorem L_202 : Db code 202 (.if_icmp .ne 7) (7) 205 209 := ⟨at_202, rfl, by decide, by decide⟩
theorem L_205 : Dc code 205 (.iconst 1) 1 206 := ⟨at_205, rfl⟩
theorem L_206 : Db code 206 (.goto 4) (4) 209 210 := ⟨at_206, rfl, by decide, by decide⟩
theorem L_209 : Dc code 209 (.iconst 0) 1 210 := ⟨at_209, rfl⟩
theorem L_210 : Dc code 210 (.istore 12) 2 212 := ⟨at_210, rfl⟩
theorem L_212 : Dc code 212 (.aload 11) 2 214 := ⟨at_212, rfl⟩
theorem L_214 : Dc code 214 (.invokestatic 7) 3 217 := ⟨at_214, rfl⟩
theorem L_217 : Dc code 217 (.iload 12) 2 219 := ⟨at_217, rfl⟩
theorem L_219 : Db code 219 (.if_icmp .ne 7) (7) 222 226 := ⟨at_219, rfl, by decide, by decide⟩
theorem L_222 : Dc code 222 (.iconst 1) 1 223 := ⟨at_222, rfl⟩
theorem L_223 : Db code 223 (.goto 4) (4) 226 227 := ⟨at_223, rfl, by decide, by decide⟩
theorem L_226 : Dc code 226 (.iconst 0) 1 227 := ⟨at_226, rfl⟩
theorem L_227 : Dc code 227 (.ireturn) 1 228 := ⟨at_227, rfl⟩
theorem ef_L (m : MethodId) (i0 : Int32) (i1 : Int32) (i2 : Int32) (i3 : Int32) (i4 : Int32) (i5 : Int64) : entryFrame m #[(.int i0), (.int i1), (.int i2), (.int i3), (.int i4), (.long i5)] maxLocals = mkF m 0 #[.val (.int i0), .val (.int i1), .val (.int i2), .val (.int i3), .val (.int i4), .val (.long i5), .second, .unset, .unset, .unset, .unset, .unset, .unset] [] := by first | (simp [entryFrame, mkF, argsToLocals, Value.category, maxLocals]; done) | rfl
set_option maxRecDepth 65536 in
set_option maxHeartbeats 40000000 in
theorem con_L (l : Launch) (Z : State) (a0 : Array Value) (hw : Tb tables_1 a0 Z) (i0 : Int32) (i1 : Int32) (i2 : Int32) (i3 : Int32) (i4 : Int32) (i5 : Int64) (h0 : Heap) (n0 : Nat) (Z0 : n0 ≤ h0.size)  :
    Con l Z x code maxLocals ret room_1 #[(.int i0), (.int i1), (.int i2), (.int i3), (.int i4), (.long i5)] h0 n0 (fun v _ => v = some (.int 1)) := by
  refine Con.of (plainFor_of_name (by decide +kernel)) Z0 ?_
  intro K hl hZ hn cx T0 X0
  subst hl hZ hn
  refine Run.cast (ef_L K.m i0 i1 i2 i3 i4 i5) ?_
  refine r_iloadN X0 cx L_0 rfl ?_
  refine r_bipush (7) X0 cx L_1 rfl ?_
  refine r_iand X0 cx L_3 ?_
  refine r_istore (fun zz => #[.val (.int i0), .val (.int i1), .val (.int i2), .val (.int i3), .val (.int i4), .val (.long i5), .second, .val (.int zz), .unset, .unset, .unset, .unset, .unset]) X0 cx L_4 (fun _ => rfl) (fun n7 e_n7 => ?_)
  have kj23 : (∀ v : Int32, (own_b v) → Run K (fun v _ => v = some (.int 1)) T0 (mkF K.m 23 #[.val (.int i0), .val (.int i1), .val (.int i2), .val (.int i3), .val (.int i4), .val (.long i5), .second, .val (.int n7), .unset, .unset, .unset, .unset, .unset] (.int v :: []))) → Run K (fun v _ => v = some (.int 1)) T0 (mkF K.m 6 #[.val (.int i0), .val (.int i1), .val (.int i2), .val (.int i3), .val (.int i4), .val (.long i5), .second, .val (.int n7), .unset, .unset, .unset, .unset, .unset] []) := by
    intro kj
    refine r_iloadN X0 cx L_6 rfl ?_
    refine r_iconst (1) X0 cx L_7 rfl ?_
    refine r_iand X0 cx L_8 ?_
    refine r_ifeq X0 cx L_9 (fun c9 => ?_) (fun c9 => ?_)
    · refine r_iloadN X0 cx L_18 rfl ?_
      refine r_sipush (255) X0 cx L_19 rfl ?_
      refine r_iand X0 cx L_22 ?_
      exact kj _ (own_b255 _)
    · refine r_sipush (255) X0 cx L_12 rfl ?_
      refine r_goto X0 cx L_15 ?_
      exact kj _ ⟨255, by decide, rfl⟩
  refine kj23 (fun v0 p_v0 => ?_)
  refine r_istore (fun zz => #[.val (.int i0), .val (.int i1), .val (.int i2), .val (.int i3), .val (.int i4), .val (.long i5), .second, .val (.int n7), .val (.int zz), .unset, .unset, .unset, .unset]) X0 cx L_23 (fun _ => rfl) (fun i51 e_i51 => ?_)
  replace e_i51 := e_i51.symm
  subst e_i51
  have kj42 : (∀ v : Int32, (own_b v) → Run K (fun v _ => v = some (.int 1)) T0 (mkF K.m 42 #[.val (.int i0), .val (.int i1), .val (.int i2), .val (.int i3), .val (.int i4), .val (.long i5), .second, .val (.int n7), .val (.int v0), .unset, .unset, .unset, .unset] (.int v :: []))) → Run K (fun v _ => v = some (.int 1)) T0 (mkF K.m 25 #[.val (.int i0), .val (.int i1), .val (.int i2), .val (.int i3), .val (.int i4), .val (.long i5), .second, .val (.int n7), .val (.int v0), .unset, .unset, .unset, .unset] []) := by
    intro kj
    refine r_iloadN X0 cx L_25 rfl ?_
    refine r_iconst (2) X0 cx L_26 rfl ?_
    refine r_iand X0 cx L_27 ?_
    refine r_ifeq X0 cx L_28 (fun c28 => ?_) (fun c28 => ?_)
    · refine r_iloadN X0 cx L_37 rfl ?_
      refine r_sipush (255) X0 cx L_38 rfl ?_
      refine r_iand X0 cx L_41 ?_
      exact kj _ (own_b255 _)
    · refine r_sipush (216) X0 cx L_31 rfl ?_
      refine r_goto X0 cx L_34 ?_
      exact kj _ ⟨216, by decide, rfl⟩
  refine kj42 (fun v1 p_v1 => ?_)
  refine r_istore (fun zz => #[.val (.int i0), .val (.int i1), .val (.int i2), .val (.int i3), .val (.int i4), .val (.long i5), .second, .val (.int n7), .val (.int v0), .val (.int zz), .unset, .unset, .unset]) X0 cx L_42 (fun _ => rfl) (fun i102 e_i102 => ?_)
  replace e_i102 := e_i102.symm
  subst e_i102
  have kj62 : (∀ v : Int32, (own_b v) → Run K (fun v _ => v = some (.int 1)) T0 (mkF K.m 62 #[.val (.int i0), .val (.int i1), .val (.int i2), .val (.int i3), .val (.int i4), .val (.long i5), .second, .val (.int n7), .val (.int v0), .val (.int v1), .unset, .unset, .unset] (.int v :: []))) → Run K (fun v _ => v = some (.int 1)) T0 (mkF K.m 44 #[.val (.int i0), .val (.int i1), .val (.int i2), .val (.int i3), .val (.int i4), .val (.long i5), .second, .val (.int n7), .val (.int v0), .val (.int v1), .unset, .unset, .unset] []) := by
    intro kj
    refine r_iloadN X0 cx L_44 rfl ?_
    refine r_iconst (4) X0 cx L_45 rfl ?_
    refine r_iand X0 cx L_46 ?_
    refine r_ifeq X0 cx L_47 (fun c47 => ?_) (fun c47 => ?_)
    · refine r_iload X0 cx L_56 rfl ?_
      refine r_sipush (255) X0 cx L_58 rfl ?_
      refine r_iand X0 cx L_61 ?_
      exact kj _ (own_b255 _)
    · refine r_sipush (255) X0 cx L_50 rfl ?_
      refine r_goto X0 cx L_53 ?_
      exact kj _ ⟨255, by decide, rfl⟩
  refine kj62 (fun v2 p_v2 => ?_)
  refine r_istore (fun zz => #[.val (.int i0), .val (.int i1), .val (.int i2), .val (.int i3), .val (.int i4), .val (.long i5), .second, .val (.int n7), .val (.int v0), .val (.int v1), .val (.int zz), .unset, .unset]) X0 cx L_62 (fun _ => rfl) (fun i153 e_i153 => ?_)
  replace e_i153 := e_i153.symm
  subst e_i153
  rcases own_m7 i0 with m7 | m7 | m7 | m7 | m7 | m7 | m7 | m7
  · obtain rfl : n7 = (0 : Int32) := e_n7.trans m7
    refine r_iload X0 cx L_64 rfl ?_
    refine r_newarray X0 cx L_66 (hw.get 0 rfl) (0) 0 rfl (Nat.le_refl _) (by decide) (by decide) (by decide) (fun T154 h154 arr ea154 g_arr X154 Ex154 A154 => ?_)
    have A_arr : AI .byte K.Z h154 arr [] := AI.new A154
    refine r_astore #[.val (.int i0), .val (.int i1), .val (.int i2), .val (.int i3), .val (.int i4), .val (.long i5), .second, .val (.int (0 : Int32)), .val (.int v0), .val (.int v1), .val (.int v2), .val (.ref arr), .unset] X154 cx L_68 rfl ?_
    refine r_iload X154 cx L_70 rfl ?_
    refine r_ifle X154 cx L_72 (fun _ => ?_) (fun c => absurd c (by decide))
    refine r_iload X154 cx L_82 rfl ?_
    refine r_iconst (1) X154 cx L_84 rfl ?_
    refine r_icmple X154 cx L_85 (fun _ => ?_) (fun c => absurd c (by decide))
    refine r_iload X154 cx L_95 rfl ?_
    refine r_iconst (2) X154 cx L_97 rfl ?_
    refine r_icmple X154 cx L_98 (fun _ => ?_) (fun c => absurd c (by decide))
    refine r_iload X154 cx L_108 rfl ?_
    refine r_iconst (3) X154 cx L_110 rfl ?_
    refine r_icmple X154 cx L_111 (fun _ => ?_) (fun c => absurd c (by decide))
    refine r_iload X154 cx L_122 rfl ?_
    refine r_iconst (4) X154 cx L_124 rfl ?_
    refine r_icmple X154 cx L_125 (fun _ => ?_) (fun c => absurd c (by decide))
    refine r_iload X154 cx L_139 rfl ?_
    refine r_iconst (5) X154 cx L_141 rfl ?_
    refine r_icmple X154 cx L_142 (fun _ => ?_) (fun c => absurd c (by decide))
    refine r_iload X154 cx L_156 rfl ?_
    refine r_bipush (6) X154 cx L_158 rfl ?_
    refine r_icmple X154 cx L_160 (fun _ => ?_) (fun c => absurd c (by decide))
    refine r_iload X154 cx L_175 rfl ?_
    refine r_iconst (3) X154 cx L_177 rfl ?_
    refine r_icmplt X154 cx L_178 (fun _ => ?_) (fun c => absurd c (by decide))
    refine r_iconst (0) X154 cx L_209 rfl ?_
    refine r_istore (fun zz => #[.val (.int i0), .val (.int i1), .val (.int i2), .val (.int i3), .val (.int i4), .val (.long i5), .second, .val (.int (0 : Int32)), .val (.int v0), .val (.int v1), .val (.int v2), .val (.ref arr), .val (.int zz)]) X154 cx L_210 (fun _ => rfl) (fun i155 e_i155 => ?_)
    subst e_i155
    refine r_aload X154 cx L_212 rfl ?_
    refine r_static [(.ref arr)] [] X154 cx L_214 (hw.get 1 rfl) (hw.get 2 rfl) (hw.get 3 rfl) (hw.get 4 rfl) (by decide) (con_P42m2 K.l K.Z a0 hw arr h154 K.n0 X154.ge [] A_arr) (lenOf pd_0 rfl) rfl rfl (by decide) (leb rfl) (by decide) (by decide) (fun T156 h156 v156 X156 q156 => ?_) (fun _ _ q => Nat.le_of_eq (congrArg Array.size q.1))
    obtain ⟨rfl, rfl⟩ := q156
    refine r_iload X156 cx L_217 rfl ?_
    refine r_icmpne X156 cx L_219 (fun c219 => ?_) (fun c219 => ?_)
    · exact absurd rfl c219
    · refine r_iconst (1) X156 cx L_222 rfl ?_
      refine r_goto X156 cx L_223 ?_
      refine r_zreturn X156 cx L_227 (by decide) (by decide) ?_
      rfl
  · obtain rfl : n7 = (1 : Int32) := e_n7.trans m7
    refine r_iload X0 cx L_64 rfl ?_
    refine r_newarray X0 cx L_66 (hw.get 0 rfl) (1) 1 rfl (Nat.le_refl _) (by decide) (by decide) (by decide) (fun T154 h154 arr ea154 g_arr X154 Ex154 A154 => ?_)
    have A_arr : AI .byte K.Z h154 arr [0] := AI.new A154
    refine r_astore #[.val (.int i0), .val (.int i1), .val (.int i2), .val (.int i3), .val (.int i4), .val (.long i5), .second, .val (.int (1 : Int32)), .val (.int v0), .val (.int v1), .val (.int v2), .val (.ref arr), .unset] X154 cx L_68 rfl ?_
    refine r_iload X154 cx L_70 rfl ?_
    refine r_ifle X154 cx L_72 (fun c => absurd c (by decide)) (fun _ => ?_)
    refine r_aload X154 cx L_75 rfl ?_
    refine r_iconst (0) X154 cx L_77 rfl ?_
    refine r_iload X154 cx L_78 rfl ?_
    refine r_i2b X154 cx L_80 ?_
    refine r_bastore X154 cx L_81 A_arr (0) rfl (ltb rfl) g_arr (fun T155 h155 X155 W155 N155 => ?_)
    have A_arr : AI .byte K.Z h155 arr [(nar .byte (Int8.toInt32 (Int32.toInt8 v0)))] := N155
    refine r_iload X155 cx L_82 rfl ?_
    refine r_iconst (1) X155 cx L_84 rfl ?_
    refine r_icmple X155 cx L_85 (fun _ => ?_) (fun c => absurd c (by decide))
    refine r_iload X155 cx L_95 rfl ?_
    refine r_iconst (2) X155 cx L_97 rfl ?_
    refine r_icmple X155 cx L_98 (fun _ => ?_) (fun c => absurd c (by decide))
    refine r_iload X155 cx L_108 rfl ?_
    refine r_iconst (3) X155 cx L_110 rfl ?_
    refine r_icmple X155 cx L_111 (fun _ => ?_) (fun c => absurd c (by decide))
    refine r_iload X155 cx L_122 rfl ?_
    refine r_iconst (4) X155 cx L_124 rfl ?_
    refine r_icmple X155 cx L_125 (fun _ => ?_) (fun c => absurd c (by decide))
    refine r_iload X155 cx L_139 rfl ?_
    refine r_iconst (5) X155 cx L_141 rfl ?_
    refine r_icmple X155 cx L_142 (fun _ => ?_) (fun c => absurd c (by decide))
    refine r_iload X155 cx L_156 rfl ?_
    refine r_bipush (6) X155 cx L_158 rfl ?_
    refine r_icmple X155 cx L_160 (fun _ => ?_) (fun c => absurd c (by decide))
    refine r_iload X155 cx L_175 rfl ?_
    refine r_iconst (3) X155 cx L_177 rfl ?_
    refine r_icmplt X155 cx L_178 (fun _ => ?_) (fun c => absurd c (by decide))
    refine r_iconst (0) X155 cx L_209 rfl ?_
    refine r_istore (fun zz => #[.val (.int i0), .val (.int i1), .val (.int i2), .val (.int i3), .val (.int i4), .val (.long i5), .second, .val (.int (1 : Int32)), .val (.int v0), .val (.int v1), .val (.int v2), .val (.ref arr), .val (.int zz)]) X155 cx L_210 (fun _ => rfl) (fun i156 e_i156 => ?_)
    subst e_i156
    refine r_aload X155 cx L_212 rfl ?_
    refine r_static [(.ref arr)] [] X155 cx L_214 (hw.get 1 rfl) (hw.get 2 rfl) (hw.get 3 rfl) (hw.get 4 rfl) (by decide) (con_P42m2 K.l K.Z a0 hw arr h155 K.n0 X155.ge [(nar .byte (Int8.toInt32 (Int32.toInt8 v0)))] A_arr) (lenOf pd_0 rfl) rfl rfl (by decide) (leb rfl) (by decide) (by decide) (fun T157 h157 v157 X157 q157 => ?_) (fun _ _ q => Nat.le_of_eq (congrArg Array.size q.1))
    obtain ⟨rfl, rfl⟩ := q157
    refine r_iload X157 cx L_217 rfl ?_
    refine r_icmpne X157 cx L_219 (fun c219 => ?_) (fun c219 => ?_)
    · exact absurd rfl c219
    · refine r_iconst (1) X157 cx L_222 rfl ?_
      refine r_goto X157 cx L_223 ?_
      refine r_zreturn X157 cx L_227 (by decide) (by decide) ?_
      rfl
  · obtain rfl : n7 = (2 : Int32) := e_n7.trans m7
    refine r_iload X0 cx L_64 rfl ?_
    refine r_newarray X0 cx L_66 (hw.get 0 rfl) (2) 2 rfl (Nat.le_refl _) (by decide) (by decide) (by decide) (fun T154 h154 arr ea154 g_arr X154 Ex154 A154 => ?_)
    have A_arr : AI .byte K.Z h154 arr [0, 0] := AI.new A154
    refine r_astore #[.val (.int i0), .val (.int i1), .val (.int i2), .val (.int i3), .val (.int i4), .val (.long i5), .second, .val (.int (2 : Int32)), .val (.int v0), .val (.int v1), .val (.int v2), .val (.ref arr), .unset] X154 cx L_68 rfl ?_
    refine r_iload X154 cx L_70 rfl ?_
    refine r_ifle X154 cx L_72 (fun c => absurd c (by decide)) (fun _ => ?_)
    refine r_aload X154 cx L_75 rfl ?_
    refine r_iconst (0) X154 cx L_77 rfl ?_
    refine r_iload X154 cx L_78 rfl ?_
    refine r_i2b X154 cx L_80 ?_
    refine r_bastore X154 cx L_81 A_arr (0) rfl (ltb rfl) g_arr (fun T155 h155 X155 W155 N155 => ?_)
    have A_arr : AI .byte K.Z h155 arr [(nar .byte (Int8.toInt32 (Int32.toInt8 v0))), 0] := N155
    refine r_iload X155 cx L_82 rfl ?_
    refine r_iconst (1) X155 cx L_84 rfl ?_
    refine r_icmple X155 cx L_85 (fun c => absurd c (by decide)) (fun _ => ?_)
    refine r_aload X155 cx L_88 rfl ?_
    refine r_iconst (1) X155 cx L_90 rfl ?_
    refine r_iload X155 cx L_91 rfl ?_
    refine r_i2b X155 cx L_93 ?_
    refine r_bastore X155 cx L_94 A_arr (1) rfl (ltb rfl) g_arr (fun T156 h156 X156 W156 N156 => ?_)
    have A_arr : AI .byte K.Z h156 arr [(nar .byte (Int8.toInt32 (Int32.toInt8 v0))), (nar .byte (Int8.toInt32 (Int32.toInt8 v1)))] := N156
    refine r_iload X156 cx L_95 rfl ?_
    refine r_iconst (2) X156 cx L_97 rfl ?_
    refine r_icmple X156 cx L_98 (fun _ => ?_) (fun c => absurd c (by decide))
    refine r_iload X156 cx L_108 rfl ?_
    refine r_iconst (3) X156 cx L_110 rfl ?_
    refine r_icmple X156 cx L_111 (fun _ => ?_) (fun c => absurd c (by decide))
    refine r_iload X156 cx L_122 rfl ?_
    refine r_iconst (4) X156 cx L_124 rfl ?_
    refine r_icmple X156 cx L_125 (fun _ => ?_) (fun c => absurd c (by decide))
    refine r_iload X156 cx L_139 rfl ?_
    refine r_iconst (5) X156 cx L_141 rfl ?_
    refine r_icmple X156 cx L_142 (fun _ => ?_) (fun c => absurd c (by decide))
    refine r_iload X156 cx L_156 rfl ?_
    refine r_bipush (6) X156 cx L_158 rfl ?_
    refine r_icmple X156 cx L_160 (fun _ => ?_) (fun c => absurd c (by decide))
    refine r_iload X156 cx L_175 rfl ?_
    refine r_iconst (3) X156 cx L_177 rfl ?_
    refine r_icmplt X156 cx L_178 (fun _ => ?_) (fun c => absurd c (by decide))
    refine r_iconst (0) X156 cx L_209 rfl ?_
    refine r_istore (fun zz => #[.val (.int i0), .val (.int i1), .val (.int i2), .val (.int i3), .val (.int i4), .val (.long i5), .second, .val (.int (2 : Int32)), .val (.int v0), .val (.int v1), .val (.int v2), .val (.ref arr), .val (.int zz)]) X156 cx L_210 (fun _ => rfl) (fun i157 e_i157 => ?_)
    subst e_i157
    refine r_aload X156 cx L_212 rfl ?_
    refine r_static [(.ref arr)] [] X156 cx L_214 (hw.get 1 rfl) (hw.get 2 rfl) (hw.get 3 rfl) (hw.get 4 rfl) (by decide) (con_P42m2 K.l K.Z a0 hw arr h156 K.n0 X156.ge [(nar .byte (Int8.toInt32 (Int32.toInt8 v0))), (nar .byte (Int8.toInt32 (Int32.toInt8 v1)))] A_arr) (lenOf pd_0 rfl) rfl rfl (by decide) (leb rfl) (by decide) (by decide) (fun T158 h158 v158 X158 q158 => ?_) (fun _ _ q => Nat.le_of_eq (congrArg Array.size q.1))
    obtain ⟨rfl, rfl⟩ := q158
    refine r_iload X158 cx L_217 rfl ?_
    refine r_icmpne X158 cx L_219 (fun c219 => ?_) (fun c219 => ?_)
    · exact absurd rfl c219
    · refine r_iconst (1) X158 cx L_222 rfl ?_
      refine r_goto X158 cx L_223 ?_
      refine r_zreturn X158 cx L_227 (by decide) (by decide) ?_
      rfl
  · obtain rfl : n7 = (3 : Int32) := e_n7.trans m7
    refine r_iload X0 cx L_64 rfl ?_
    refine r_newarray X0 cx L_66 (hw.get 0 rfl) (3) 3 rfl (Nat.le_refl _) (by decide) (by decide) (by decide) (fun T154 h154 arr ea154 g_arr X154 Ex154 A154 => ?_)
    have A_arr : AI .byte K.Z h154 arr [0, 0, 0] := AI.new A154
    refine r_astore #[.val (.int i0), .val (.int i1), .val (.int i2), .val (.int i3), .val (.int i4), .val (.long i5), .second, .val (.int (3 : Int32)), .val (.int v0), .val (.int v1), .val (.int v2), .val (.ref arr), .unset] X154 cx L_68 rfl ?_
    refine r_iload X154 cx L_70 rfl ?_
    refine r_ifle X154 cx L_72 (fun c => absurd c (by decide)) (fun _ => ?_)
    refine r_aload X154 cx L_75 rfl ?_
    refine r_iconst (0) X154 cx L_77 rfl ?_
    refine r_iload X154 cx L_78 rfl ?_
    refine r_i2b X154 cx L_80 ?_
    refine r_bastore X154 cx L_81 A_arr (0) rfl (ltb rfl) g_arr (fun T155 h155 X155 W155 N155 => ?_)
    have A_arr : AI .byte K.Z h155 arr [(nar .byte (Int8.toInt32 (Int32.toInt8 v0))), 0, 0] := N155
    refine r_iload X155 cx L_82 rfl ?_
    refine r_iconst (1) X155 cx L_84 rfl ?_
    refine r_icmple X155 cx L_85 (fun c => absurd c (by decide)) (fun _ => ?_)
    refine r_aload X155 cx L_88 rfl ?_
    refine r_iconst (1) X155 cx L_90 rfl ?_
    refine r_iload X155 cx L_91 rfl ?_
    refine r_i2b X155 cx L_93 ?_
    refine r_bastore X155 cx L_94 A_arr (1) rfl (ltb rfl) g_arr (fun T156 h156 X156 W156 N156 => ?_)
    have A_arr : AI .byte K.Z h156 arr [(nar .byte (Int8.toInt32 (Int32.toInt8 v0))), (nar .byte (Int8.toInt32 (Int32.toInt8 v1))), 0] := N156
    refine r_iload X156 cx L_95 rfl ?_
    refine r_iconst (2) X156 cx L_97 rfl ?_
    refine r_icmple X156 cx L_98 (fun c => absurd c (by decide)) (fun _ => ?_)
    refine r_aload X156 cx L_101 rfl ?_
    refine r_iconst (2) X156 cx L_103 rfl ?_
    refine r_iload X156 cx L_104 rfl ?_
    refine r_i2b X156 cx L_106 ?_
    refine r_bastore X156 cx L_107 A_arr (2) rfl (ltb rfl) g_arr (fun T157 h157 X157 W157 N157 => ?_)
    have A_arr : AI .byte K.Z h157 arr [(nar .byte (Int8.toInt32 (Int32.toInt8 v0))), (nar .byte (Int8.toInt32 (Int32.toInt8 v1))), (nar .byte (Int8.toInt32 (Int32.toInt8 v2)))] := N157
    refine r_iload X157 cx L_108 rfl ?_
    refine r_iconst (3) X157 cx L_110 rfl ?_
    refine r_icmple X157 cx L_111 (fun _ => ?_) (fun c => absurd c (by decide))
    refine r_iload X157 cx L_122 rfl ?_
    refine r_iconst (4) X157 cx L_124 rfl ?_
    refine r_icmple X157 cx L_125 (fun _ => ?_) (fun c => absurd c (by decide))
    refine r_iload X157 cx L_139 rfl ?_
    refine r_iconst (5) X157 cx L_141 rfl ?_
    refine r_icmple X157 cx L_142 (fun _ => ?_) (fun c => absurd c (by decide))
    refine r_iload X157 cx L_156 rfl ?_
    refine r_bipush (6) X157 cx L_158 rfl ?_
    refine r_icmple X157 cx L_160 (fun _ => ?_) (fun c => absurd c (by decide))
    have kj210 : (∀ v : Int32, (v = own_jpeg [(nar .byte (Int8.toInt32 (Int32.toInt8 v0))), (nar .byte (Int8.toInt32 (Int32.toInt8 v1))), (nar .byte (Int8.toInt32 (Int32.toInt8 v2)))]) → Run K (fun v _ => v = some (.int 1)) T157 (mkF K.m 210 #[.val (.int i0), .val (.int i1), .val (.int i2), .val (.int i3), .val (.int i4), .val (.long i5), .second, .val (.int (3 : Int32)), .val (.int v0), .val (.int v1), .val (.int v2), .val (.ref arr), .unset] (.int v :: []))) → Run K (fun v _ => v = some (.int 1)) T157 (mkF K.m 175 #[.val (.int i0), .val (.int i1), .val (.int i2), .val (.int i3), .val (.int i4), .val (.long i5), .second, .val (.int (3 : Int32)), .val (.int v0), .val (.int v1), .val (.int v2), .val (.ref arr), .unset] []) := by
      intro kj
      refine r_iload X157 cx L_175 rfl ?_
      refine r_iconst (3) X157 cx L_177 rfl ?_
      refine r_icmplt X157 cx L_178 (fun c => absurd c (by decide)) (fun _ => ?_)
      refine r_iload X157 cx L_181 rfl ?_
      refine r_sipush (255) X157 cx L_183 rfl ?_
      refine r_icmpne X157 cx L_186 (fun c186 => ?_) (fun c186 => ?_)
      · refine r_iconst (0) X157 cx L_209 rfl ?_
        exact kj _ (by rw [own_jp p_v0 p_v1 p_v2]; simp [c186])
      · refine r_iload X157 cx L_189 rfl ?_
        refine r_sipush (216) X157 cx L_191 rfl ?_
        refine r_icmpne X157 cx L_194 (fun c194 => ?_) (fun c194 => ?_)
        · refine r_iconst (0) X157 cx L_209 rfl ?_
          exact kj _ (by rw [own_jp p_v0 p_v1 p_v2]; simp [c186, c194])
        · refine r_iload X157 cx L_197 rfl ?_
          refine r_sipush (255) X157 cx L_199 rfl ?_
          refine r_icmpne X157 cx L_202 (fun c202 => ?_) (fun c202 => ?_)
          · refine r_iconst (0) X157 cx L_209 rfl ?_
            exact kj _ (by rw [own_jp p_v0 p_v1 p_v2]; simp [c186, c194, c202])
          · refine r_iconst (1) X157 cx L_205 rfl ?_
            refine r_goto X157 cx L_206 ?_
            exact kj _ (by rw [own_jp p_v0 p_v1 p_v2]; simp [c186, c194, c202])
    refine kj210 (fun ex p_ex => ?_)
    refine r_istore (fun zz => #[.val (.int i0), .val (.int i1), .val (.int i2), .val (.int i3), .val (.int i4), .val (.long i5), .second, .val (.int (3 : Int32)), .val (.int v0), .val (.int v1), .val (.int v2), .val (.ref arr), .val (.int zz)]) X157 cx L_210 (fun _ => rfl) (fun i208 e_i208 => ?_)
    replace e_i208 := e_i208.symm
    subst e_i208
    refine r_aload X157 cx L_212 rfl ?_
    refine r_static [(.ref arr)] [] X157 cx L_214 (hw.get 1 rfl) (hw.get 2 rfl) (hw.get 3 rfl) (hw.get 4 rfl) (by decide) (con_P42m2 K.l K.Z a0 hw arr h157 K.n0 X157.ge [(nar .byte (Int8.toInt32 (Int32.toInt8 v0))), (nar .byte (Int8.toInt32 (Int32.toInt8 v1))), (nar .byte (Int8.toInt32 (Int32.toInt8 v2)))] A_arr) (lenOf pd_0 rfl) rfl rfl (by decide) (leb rfl) (by decide) (by decide) (fun T209 h209 v209 X209 q209 => ?_) (fun _ _ q => Nat.le_of_eq (congrArg Array.size q.1))
    obtain ⟨rfl, rfl⟩ := q209
    refine r_iload X209 cx L_217 rfl ?_
    refine r_icmpne X209 cx L_219 (fun c219 => ?_) (fun c219 => ?_)
    · exact absurd p_ex.symm c219
    · refine r_iconst (1) X209 cx L_222 rfl ?_
      refine r_goto X209 cx L_223 ?_
      refine r_zreturn X209 cx L_227 (by decide) (by decide) ?_
      rfl
  · obtain rfl : n7 = (4 : Int32) := e_n7.trans m7
    refine r_iload X0 cx L_64 rfl ?_
    refine r_newarray X0 cx L_66 (hw.get 0 rfl) (4) 4 rfl (Nat.le_refl _) (by decide) (by decide) (by decide) (fun T154 h154 arr ea154 g_arr X154 Ex154 A154 => ?_)
    have A_arr : AI .byte K.Z h154 arr [0, 0, 0, 0] := AI.new A154
    refine r_astore #[.val (.int i0), .val (.int i1), .val (.int i2), .val (.int i3), .val (.int i4), .val (.long i5), .second, .val (.int (4 : Int32)), .val (.int v0), .val (.int v1), .val (.int v2), .val (.ref arr), .unset] X154 cx L_68 rfl ?_
    refine r_iload X154 cx L_70 rfl ?_
    refine r_ifle X154 cx L_72 (fun c => absurd c (by decide)) (fun _ => ?_)
    refine r_aload X154 cx L_75 rfl ?_
    refine r_iconst (0) X154 cx L_77 rfl ?_
    refine r_iload X154 cx L_78 rfl ?_
    refine r_i2b X154 cx L_80 ?_
    refine r_bastore X154 cx L_81 A_arr (0) rfl (ltb rfl) g_arr (fun T155 h155 X155 W155 N155 => ?_)
    have A_arr : AI .byte K.Z h155 arr [(nar .byte (Int8.toInt32 (Int32.toInt8 v0))), 0, 0, 0] := N155
    refine r_iload X155 cx L_82 rfl ?_
    refine r_iconst (1) X155 cx L_84 rfl ?_
    refine r_icmple X155 cx L_85 (fun c => absurd c (by decide)) (fun _ => ?_)
    refine r_aload X155 cx L_88 rfl ?_
    refine r_iconst (1) X155 cx L_90 rfl ?_
    refine r_iload X155 cx L_91 rfl ?_
    refine r_i2b X155 cx L_93 ?_
    refine r_bastore X155 cx L_94 A_arr (1) rfl (ltb rfl) g_arr (fun T156 h156 X156 W156 N156 => ?_)
    have A_arr : AI .byte K.Z h156 arr [(nar .byte (Int8.toInt32 (Int32.toInt8 v0))), (nar .byte (Int8.toInt32 (Int32.toInt8 v1))), 0, 0] := N156
    refine r_iload X156 cx L_95 rfl ?_
    refine r_iconst (2) X156 cx L_97 rfl ?_
    refine r_icmple X156 cx L_98 (fun c => absurd c (by decide)) (fun _ => ?_)
    refine r_aload X156 cx L_101 rfl ?_
    refine r_iconst (2) X156 cx L_103 rfl ?_
    refine r_iload X156 cx L_104 rfl ?_
    refine r_i2b X156 cx L_106 ?_
    refine r_bastore X156 cx L_107 A_arr (2) rfl (ltb rfl) g_arr (fun T157 h157 X157 W157 N157 => ?_)
    have A_arr : AI .byte K.Z h157 arr [(nar .byte (Int8.toInt32 (Int32.toInt8 v0))), (nar .byte (Int8.toInt32 (Int32.toInt8 v1))), (nar .byte (Int8.toInt32 (Int32.toInt8 v2))), 0] := N157
    refine r_iload X157 cx L_108 rfl ?_
    refine r_iconst (3) X157 cx L_110 rfl ?_
    refine r_icmple X157 cx L_111 (fun c => absurd c (by decide)) (fun _ => ?_)
    refine r_aload X157 cx L_114 rfl ?_
    refine r_iconst (3) X157 cx L_116 rfl ?_
    refine r_lload X157 cx L_117 rfl ?_
    refine r_l2i X157 cx L_119 ?_
    refine r_i2b X157 cx L_120 ?_
    refine r_bastore X157 cx L_121 A_arr (3) rfl (ltb rfl) g_arr (fun T158 h158 X158 W158 N158 => ?_)
    have A_arr : AI .byte K.Z h158 arr [(nar .byte (Int8.toInt32 (Int32.toInt8 v0))), (nar .byte (Int8.toInt32 (Int32.toInt8 v1))), (nar .byte (Int8.toInt32 (Int32.toInt8 v2))), (nar .byte (Int8.toInt32 (Int32.toInt8 (Int64.toInt32 i5))))] := N158
    refine r_iload X158 cx L_122 rfl ?_
    refine r_iconst (4) X158 cx L_124 rfl ?_
    refine r_icmple X158 cx L_125 (fun _ => ?_) (fun c => absurd c (by decide))
    refine r_iload X158 cx L_139 rfl ?_
    refine r_iconst (5) X158 cx L_141 rfl ?_
    refine r_icmple X158 cx L_142 (fun _ => ?_) (fun c => absurd c (by decide))
    refine r_iload X158 cx L_156 rfl ?_
    refine r_bipush (6) X158 cx L_158 rfl ?_
    refine r_icmple X158 cx L_160 (fun _ => ?_) (fun c => absurd c (by decide))
    have kj210 : (∀ v : Int32, (v = own_jpeg [(nar .byte (Int8.toInt32 (Int32.toInt8 v0))), (nar .byte (Int8.toInt32 (Int32.toInt8 v1))), (nar .byte (Int8.toInt32 (Int32.toInt8 v2))), (nar .byte (Int8.toInt32 (Int32.toInt8 (Int64.toInt32 i5))))]) → Run K (fun v _ => v = some (.int 1)) T158 (mkF K.m 210 #[.val (.int i0), .val (.int i1), .val (.int i2), .val (.int i3), .val (.int i4), .val (.long i5), .second, .val (.int (4 : Int32)), .val (.int v0), .val (.int v1), .val (.int v2), .val (.ref arr), .unset] (.int v :: []))) → Run K (fun v _ => v = some (.int 1)) T158 (mkF K.m 175 #[.val (.int i0), .val (.int i1), .val (.int i2), .val (.int i3), .val (.int i4), .val (.long i5), .second, .val (.int (4 : Int32)), .val (.int v0), .val (.int v1), .val (.int v2), .val (.ref arr), .unset] []) := by
      intro kj
      refine r_iload X158 cx L_175 rfl ?_
      refine r_iconst (3) X158 cx L_177 rfl ?_
      refine r_icmplt X158 cx L_178 (fun c => absurd c (by decide)) (fun _ => ?_)
      refine r_iload X158 cx L_181 rfl ?_
      refine r_sipush (255) X158 cx L_183 rfl ?_
      refine r_icmpne X158 cx L_186 (fun c186 => ?_) (fun c186 => ?_)
      · refine r_iconst (0) X158 cx L_209 rfl ?_
        exact kj _ (by rw [own_jp p_v0 p_v1 p_v2]; simp [c186])
      · refine r_iload X158 cx L_189 rfl ?_
        refine r_sipush (216) X158 cx L_191 rfl ?_
        refine r_icmpne X158 cx L_194 (fun c194 => ?_) (fun c194 => ?_)
        · refine r_iconst (0) X158 cx L_209 rfl ?_
          exact kj _ (by rw [own_jp p_v0 p_v1 p_v2]; simp [c186, c194])
        · refine r_iload X158 cx L_197 rfl ?_
          refine r_sipush (255) X158 cx L_199 rfl ?_
          refine r_icmpne X158 cx L_202 (fun c202 => ?_) (fun c202 => ?_)
          · refine r_iconst (0) X158 cx L_209 rfl ?_
            exact kj _ (by rw [own_jp p_v0 p_v1 p_v2]; simp [c186, c194, c202])
          · refine r_iconst (1) X158 cx L_205 rfl ?_
            refine r_goto X158 cx L_206 ?_
            exact kj _ (by rw [own_jp p_v0 p_v1 p_v2]; simp [c186, c194, c202])
    refine kj210 (fun ex p_ex => ?_)
    refine r_istore (fun zz => #[.val (.int i0), .val (.int i1), .val (.int i2), .val (.int i3), .val (.int i4), .val (.long i5), .second, .val (.int (4 : Int32)), .val (.int v0), .val (.int v1), .val (.int v2), .val (.ref arr), .val (.int zz)]) X158 cx L_210 (fun _ => rfl) (fun i209 e_i209 => ?_)
    replace e_i209 := e_i209.symm
    subst e_i209
    refine r_aload X158 cx L_212 rfl ?_
    refine r_static [(.ref arr)] [] X158 cx L_214 (hw.get 1 rfl) (hw.get 2 rfl) (hw.get 3 rfl) (hw.get 4 rfl) (by decide) (con_P42m2 K.l K.Z a0 hw arr h158 K.n0 X158.ge [(nar .byte (Int8.toInt32 (Int32.toInt8 v0))), (nar .byte (Int8.toInt32 (Int32.toInt8 v1))), (nar .byte (Int8.toInt32 (Int32.toInt8 v2))), (nar .byte (Int8.toInt32 (Int32.toInt8 (Int64.toInt32 i5))))] A_arr) (lenOf pd_0 rfl) rfl rfl (by decide) (leb rfl) (by decide) (by decide) (fun T210 h210 v210 X210 q210 => ?_) (fun _ _ q => Nat.le_of_eq (congrArg Array.size q.1))
    obtain ⟨rfl, rfl⟩ := q210
    refine r_iload X210 cx L_217 rfl ?_
    refine r_icmpne X210 cx L_219 (fun c219 => ?_) (fun c219 => ?_)
    · exact absurd p_ex.symm c219
    · refine r_iconst (1) X210 cx L_222 rfl ?_
      refine r_goto X210 cx L_223 ?_
      refine r_zreturn X210 cx L_227 (by decide) (by decide) ?_
      rfl
  · obtain rfl : n7 = (5 : Int32) := e_n7.trans m7
    refine r_iload X0 cx L_64 rfl ?_
    refine r_newarray X0 cx L_66 (hw.get 0 rfl) (5) 5 rfl (Nat.le_refl _) (by decide) (by decide) (by decide) (fun T154 h154 arr ea154 g_arr X154 Ex154 A154 => ?_)
    have A_arr : AI .byte K.Z h154 arr [0, 0, 0, 0, 0] := AI.new A154
    refine r_astore #[.val (.int i0), .val (.int i1), .val (.int i2), .val (.int i3), .val (.int i4), .val (.long i5), .second, .val (.int (5 : Int32)), .val (.int v0), .val (.int v1), .val (.int v2), .val (.ref arr), .unset] X154 cx L_68 rfl ?_
    refine r_iload X154 cx L_70 rfl ?_
    refine r_ifle X154 cx L_72 (fun c => absurd c (by decide)) (fun _ => ?_)
    refine r_aload X154 cx L_75 rfl ?_
    refine r_iconst (0) X154 cx L_77 rfl ?_
    refine r_iload X154 cx L_78 rfl ?_
    refine r_i2b X154 cx L_80 ?_
    refine r_bastore X154 cx L_81 A_arr (0) rfl (ltb rfl) g_arr (fun T155 h155 X155 W155 N155 => ?_)
    have A_arr : AI .byte K.Z h155 arr [(nar .byte (Int8.toInt32 (Int32.toInt8 v0))), 0, 0, 0, 0] := N155
    refine r_iload X155 cx L_82 rfl ?_
    refine r_iconst (1) X155 cx L_84 rfl ?_
    refine r_icmple X155 cx L_85 (fun c => absurd c (by decide)) (fun _ => ?_)
    refine r_aload X155 cx L_88 rfl ?_
    refine r_iconst (1) X155 cx L_90 rfl ?_
    refine r_iload X155 cx L_91 rfl ?_
    refine r_i2b X155 cx L_93 ?_
    refine r_bastore X155 cx L_94 A_arr (1) rfl (ltb rfl) g_arr (fun T156 h156 X156 W156 N156 => ?_)
    have A_arr : AI .byte K.Z h156 arr [(nar .byte (Int8.toInt32 (Int32.toInt8 v0))), (nar .byte (Int8.toInt32 (Int32.toInt8 v1))), 0, 0, 0] := N156
    refine r_iload X156 cx L_95 rfl ?_
    refine r_iconst (2) X156 cx L_97 rfl ?_
    refine r_icmple X156 cx L_98 (fun c => absurd c (by decide)) (fun _ => ?_)
    refine r_aload X156 cx L_101 rfl ?_
    refine r_iconst (2) X156 cx L_103 rfl ?_
    refine r_iload X156 cx L_104 rfl ?_
    refine r_i2b X156 cx L_106 ?_
    refine r_bastore X156 cx L_107 A_arr (2) rfl (ltb rfl) g_arr (fun T157 h157 X157 W157 N157 => ?_)
    have A_arr : AI .byte K.Z h157 arr [(nar .byte (Int8.toInt32 (Int32.toInt8 v0))), (nar .byte (Int8.toInt32 (Int32.toInt8 v1))), (nar .byte (Int8.toInt32 (Int32.toInt8 v2))), 0, 0] := N157
    refine r_iload X157 cx L_108 rfl ?_
    refine r_iconst (3) X157 cx L_110 rfl ?_
    refine r_icmple X157 cx L_111 (fun c => absurd c (by decide)) (fun _ => ?_)
    refine r_aload X157 cx L_114 rfl ?_
    refine r_iconst (3) X157 cx L_116 rfl ?_
    refine r_lload X157 cx L_117 rfl ?_
    refine r_l2i X157 cx L_119 ?_
    refine r_i2b X157 cx L_120 ?_
    refine r_bastore X157 cx L_121 A_arr (3) rfl (ltb rfl) g_arr (fun T158 h158 X158 W158 N158 => ?_)
    have A_arr : AI .byte K.Z h158 arr [(nar .byte (Int8.toInt32 (Int32.toInt8 v0))), (nar .byte (Int8.toInt32 (Int32.toInt8 v1))), (nar .byte (Int8.toInt32 (Int32.toInt8 v2))), (nar .byte (Int8.toInt32 (Int32.toInt8 (Int64.toInt32 i5)))), 0] := N158
    refine r_iload X158 cx L_122 rfl ?_
    refine r_iconst (4) X158 cx L_124 rfl ?_
    refine r_icmple X158 cx L_125 (fun c => absurd c (by decide)) (fun _ => ?_)
    refine r_aload X158 cx L_128 rfl ?_
    refine r_iconst (4) X158 cx L_130 rfl ?_
    refine r_lload X158 cx L_131 rfl ?_
    refine r_bipush (8) X158 cx L_133 rfl ?_
    refine r_lushr X158 cx L_135 ?_
    refine r_l2i X158 cx L_136 ?_
    refine r_i2b X158 cx L_137 ?_
    refine r_bastore X158 cx L_138 A_arr (4) rfl (ltb rfl) g_arr (fun T159 h159 X159 W159 N159 => ?_)
    have A_arr : AI .byte K.Z h159 arr [(nar .byte (Int8.toInt32 (Int32.toInt8 v0))), (nar .byte (Int8.toInt32 (Int32.toInt8 v1))), (nar .byte (Int8.toInt32 (Int32.toInt8 v2))), (nar .byte (Int8.toInt32 (Int32.toInt8 (Int64.toInt32 i5)))), (nar .byte (Int8.toInt32 (Int32.toInt8 (Int64.toInt32 (XT.ushrL i5 (8 : Int32))))))] := N159
    refine r_iload X159 cx L_139 rfl ?_
    refine r_iconst (5) X159 cx L_141 rfl ?_
    refine r_icmple X159 cx L_142 (fun _ => ?_) (fun c => absurd c (by decide))
    refine r_iload X159 cx L_156 rfl ?_
    refine r_bipush (6) X159 cx L_158 rfl ?_
    refine r_icmple X159 cx L_160 (fun _ => ?_) (fun c => absurd c (by decide))
    have kj210 : (∀ v : Int32, (v = own_jpeg [(nar .byte (Int8.toInt32 (Int32.toInt8 v0))), (nar .byte (Int8.toInt32 (Int32.toInt8 v1))), (nar .byte (Int8.toInt32 (Int32.toInt8 v2))), (nar .byte (Int8.toInt32 (Int32.toInt8 (Int64.toInt32 i5)))), (nar .byte (Int8.toInt32 (Int32.toInt8 (Int64.toInt32 (XT.ushrL i5 (8 : Int32))))))]) → Run K (fun v _ => v = some (.int 1)) T159 (mkF K.m 210 #[.val (.int i0), .val (.int i1), .val (.int i2), .val (.int i3), .val (.int i4), .val (.long i5), .second, .val (.int (5 : Int32)), .val (.int v0), .val (.int v1), .val (.int v2), .val (.ref arr), .unset] (.int v :: []))) → Run K (fun v _ => v = some (.int 1)) T159 (mkF K.m 175 #[.val (.int i0), .val (.int i1), .val (.int i2), .val (.int i3), .val (.int i4), .val (.long i5), .second, .val (.int (5 : Int32)), .val (.int v0), .val (.int v1), .val (.int v2), .val (.ref arr), .unset] []) := by
      intro kj
      refine r_iload X159 cx L_175 rfl ?_
      refine r_iconst (3) X159 cx L_177 rfl ?_
      refine r_icmplt X159 cx L_178 (fun c => absurd c (by decide)) (fun _ => ?_)
      refine r_iload X159 cx L_181 rfl ?_
      refine r_sipush (255) X159 cx L_183 rfl ?_
      refine r_icmpne X159 cx L_186 (fun c186 => ?_) (fun c186 => ?_)
      · refine r_iconst (0) X159 cx L_209 rfl ?_
        exact kj _ (by rw [own_jp p_v0 p_v1 p_v2]; simp [c186])
      · refine r_iload X159 cx L_189 rfl ?_
        refine r_sipush (216) X159 cx L_191 rfl ?_
        refine r_icmpne X159 cx L_194 (fun c194 => ?_) (fun c194 => ?_)
        · refine r_iconst (0) X159 cx L_209 rfl ?_
          exact kj _ (by rw [own_jp p_v0 p_v1 p_v2]; simp [c186, c194])
        · refine r_iload X159 cx L_197 rfl ?_
          refine r_sipush (255) X159 cx L_199 rfl ?_
          refine r_icmpne X159 cx L_202 (fun c202 => ?_) (fun c202 => ?_)
          · refine r_iconst (0) X159 cx L_209 rfl ?_
            exact kj _ (by rw [own_jp p_v0 p_v1 p_v2]; simp [c186, c194, c202])
          · refine r_iconst (1) X159 cx L_205 rfl ?_
            refine r_goto X159 cx L_206 ?_
            exact kj _ (by rw [own_jp p_v0 p_v1 p_v2]; simp [c186, c194, c202])
    refine kj210 (fun ex p_ex => ?_)
    refine r_istore (fun zz => #[.val (.int i0), .val (.int i1), .val (.int i2), .val (.int i3), .val (.int i4), .val (.long i5), .second, .val (.int (5 : Int32)), .val (.int v0), .val (.int v1), .val (.int v2), .val (.ref arr), .val (.int zz)]) X159 cx L_210 (fun _ => rfl) (fun i210 e_i210 => ?_)
    replace e_i210 := e_i210.symm
    subst e_i210
    refine r_aload X159 cx L_212 rfl ?_
    refine r_static [(.ref arr)] [] X159 cx L_214 (hw.get 1 rfl) (hw.get 2 rfl) (hw.get 3 rfl) (hw.get 4 rfl) (by decide) (con_P42m2 K.l K.Z a0 hw arr h159 K.n0 X159.ge [(nar .byte (Int8.toInt32 (Int32.toInt8 v0))), (nar .byte (Int8.toInt32 (Int32.toInt8 v1))), (nar .byte (Int8.toInt32 (Int32.toInt8 v2))), (nar .byte (Int8.toInt32 (Int32.toInt8 (Int64.toInt32 i5)))), (nar .byte (Int8.toInt32 (Int32.toInt8 (Int64.toInt32 (XT.ushrL i5 (8 : Int32))))))] A_arr) (lenOf pd_0 rfl) rfl rfl (by decide) (leb rfl) (by decide) (by decide) (fun T211 h211 v211 X211 q211 => ?_) (fun _ _ q => Nat.le_of_eq (congrArg Array.size q.1))
    obtain ⟨rfl, rfl⟩ := q211
    refine r_iload X211 cx L_217 rfl ?_
    refine r_icmpne X211 cx L_219 (fun c219 => ?_) (fun c219 => ?_)
    · exact absurd p_ex.symm c219
    · refine r_iconst (1) X211 cx L_222 rfl ?_
      refine r_goto X211 cx L_223 ?_
      refine r_zreturn X211 cx L_227 (by decide) (by decide) ?_
      rfl
  · obtain rfl : n7 = (6 : Int32) := e_n7.trans m7
    refine r_iload X0 cx L_64 rfl ?_
    refine r_newarray X0 cx L_66 (hw.get 0 rfl) (6) 6 rfl (Nat.le_refl _) (by decide) (by decide) (by decide) (fun T154 h154 arr ea154 g_arr X154 Ex154 A154 => ?_)
    have A_arr : AI .byte K.Z h154 arr [0, 0, 0, 0, 0, 0] := AI.new A154
    refine r_astore #[.val (.int i0), .val (.int i1), .val (.int i2), .val (.int i3), .val (.int i4), .val (.long i5), .second, .val (.int (6 : Int32)), .val (.int v0), .val (.int v1), .val (.int v2), .val (.ref arr), .unset] X154 cx L_68 rfl ?_
    refine r_iload X154 cx L_70 rfl ?_
    refine r_ifle X154 cx L_72 (fun c => absurd c (by decide)) (fun _ => ?_)
    refine r_aload X154 cx L_75 rfl ?_
    refine r_iconst (0) X154 cx L_77 rfl ?_
    refine r_iload X154 cx L_78 rfl ?_
    refine r_i2b X154 cx L_80 ?_
    refine r_bastore X154 cx L_81 A_arr (0) rfl (ltb rfl) g_arr (fun T155 h155 X155 W155 N155 => ?_)
    have A_arr : AI .byte K.Z h155 arr [(nar .byte (Int8.toInt32 (Int32.toInt8 v0))), 0, 0, 0, 0, 0] := N155
    refine r_iload X155 cx L_82 rfl ?_
    refine r_iconst (1) X155 cx L_84 rfl ?_
    refine r_icmple X155 cx L_85 (fun c => absurd c (by decide)) (fun _ => ?_)
    refine r_aload X155 cx L_88 rfl ?_
    refine r_iconst (1) X155 cx L_90 rfl ?_
    refine r_iload X155 cx L_91 rfl ?_
    refine r_i2b X155 cx L_93 ?_
    refine r_bastore X155 cx L_94 A_arr (1) rfl (ltb rfl) g_arr (fun T156 h156 X156 W156 N156 => ?_)
    have A_arr : AI .byte K.Z h156 arr [(nar .byte (Int8.toInt32 (Int32.toInt8 v0))), (nar .byte (Int8.toInt32 (Int32.toInt8 v1))), 0, 0, 0, 0] := N156
    refine r_iload X156 cx L_95 rfl ?_
    refine r_iconst (2) X156 cx L_97 rfl ?_
    refine r_icmple X156 cx L_98 (fun c => absurd c (by decide)) (fun _ => ?_)
    refine r_aload X156 cx L_101 rfl ?_
    refine r_iconst (2) X156 cx L_103 rfl ?_
    refine r_iload X156 cx L_104 rfl ?_
    refine r_i2b X156 cx L_106 ?_
    refine r_bastore X156 cx L_107 A_arr (2) rfl (ltb rfl) g_arr (fun T157 h157 X157 W157 N157 => ?_)
    have A_arr : AI .byte K.Z h157 arr [(nar .byte (Int8.toInt32 (Int32.toInt8 v0))), (nar .byte (Int8.toInt32 (Int32.toInt8 v1))), (nar .byte (Int8.toInt32 (Int32.toInt8 v2))), 0, 0, 0] := N157
    refine r_iload X157 cx L_108 rfl ?_
    refine r_iconst (3) X157 cx L_110 rfl ?_
    refine r_icmple X157 cx L_111 (fun c => absurd c (by decide)) (fun _ => ?_)
    refine r_aload X157 cx L_114 rfl ?_
    refine r_iconst (3) X157 cx L_116 rfl ?_
    refine r_lload X157 cx L_117 rfl ?_
    refine r_l2i X157 cx L_119 ?_
    refine r_i2b X157 cx L_120 ?_
    refine r_bastore X157 cx L_121 A_arr (3) rfl (ltb rfl) g_arr (fun T158 h158 X158 W158 N158 => ?_)
    have A_arr : AI .byte K.Z h158 arr [(nar .byte (Int8.toInt32 (Int32.toInt8 v0))), (nar .byte (Int8.toInt32 (Int32.toInt8 v1))), (nar .byte (Int8.toInt32 (Int32.toInt8 v2))), (nar .byte (Int8.toInt32 (Int32.toInt8 (Int64.toInt32 i5)))), 0, 0] := N158
    refine r_iload X158 cx L_122 rfl ?_
    refine r_iconst (4) X158 cx L_124 rfl ?_
    refine r_icmple X158 cx L_125 (fun c => absurd c (by decide)) (fun _ => ?_)
    refine r_aload X158 cx L_128 rfl ?_
    refine r_iconst (4) X158 cx L_130 rfl ?_
    refine r_lload X158 cx L_131 rfl ?_
    refine r_bipush (8) X158 cx L_133 rfl ?_
    refine r_lushr X158 cx L_135 ?_
    refine r_l2i X158 cx L_136 ?_
    refine r_i2b X158 cx L_137 ?_
    refine r_bastore X158 cx L_138 A_arr (4) rfl (ltb rfl) g_arr (fun T159 h159 X159 W159 N159 => ?_)
    have A_arr : AI .byte K.Z h159 arr [(nar .byte (Int8.toInt32 (Int32.toInt8 v0))), (nar .byte (Int8.toInt32 (Int32.toInt8 v1))), (nar .byte (Int8.toInt32 (Int32.toInt8 v2))), (nar .byte (Int8.toInt32 (Int32.toInt8 (Int64.toInt32 i5)))), (nar .byte (Int8.toInt32 (Int32.toInt8 (Int64.toInt32 (XT.ushrL i5 (8 : Int32)))))), 0] := N159
    refine r_iload X159 cx L_139 rfl ?_
    refine r_iconst (5) X159 cx L_141 rfl ?_
    refine r_icmple X159 cx L_142 (fun c => absurd c (by decide)) (fun _ => ?_)
    refine r_aload X159 cx L_145 rfl ?_
    refine r_iconst (5) X159 cx L_147 rfl ?_
    refine r_lload X159 cx L_148 rfl ?_
    refine r_bipush (16) X159 cx L_150 rfl ?_
    refine r_lushr X159 cx L_152 ?_
    refine r_l2i X159 cx L_153 ?_
    refine r_i2b X159 cx L_154 ?_
    refine r_bastore X159 cx L_155 A_arr (5) rfl (ltb rfl) g_arr (fun T160 h160 X160 W160 N160 => ?_)
    have A_arr : AI .byte K.Z h160 arr [(nar .byte (Int8.toInt32 (Int32.toInt8 v0))), (nar .byte (Int8.toInt32 (Int32.toInt8 v1))), (nar .byte (Int8.toInt32 (Int32.toInt8 v2))), (nar .byte (Int8.toInt32 (Int32.toInt8 (Int64.toInt32 i5)))), (nar .byte (Int8.toInt32 (Int32.toInt8 (Int64.toInt32 (XT.ushrL i5 (8 : Int32)))))), (nar .byte (Int8.toInt32 (Int32.toInt8 (Int64.toInt32 (XT.ushrL i5 (16 : Int32))))))] := N160
    refine r_iload X160 cx L_156 rfl ?_
    refine r_bipush (6) X160 cx L_158 rfl ?_
    refine r_icmple X160 cx L_160 (fun _ => ?_) (fun c => absurd c (by decide))
    have kj210 : (∀ v : Int32, (v = own_jpeg [(nar .byte (Int8.toInt32 (Int32.toInt8 v0))), (nar .byte (Int8.toInt32 (Int32.toInt8 v1))), (nar .byte (Int8.toInt32 (Int32.toInt8 v2))), (nar .byte (Int8.toInt32 (Int32.toInt8 (Int64.toInt32 i5)))), (nar .byte (Int8.toInt32 (Int32.toInt8 (Int64.toInt32 (XT.ushrL i5 (8 : Int32)))))), (nar .byte (Int8.toInt32 (Int32.toInt8 (Int64.toInt32 (XT.ushrL i5 (16 : Int32))))))]) → Run K (fun v _ => v = some (.int 1)) T160 (mkF K.m 210 #[.val (.int i0), .val (.int i1), .val (.int i2), .val (.int i3), .val (.int i4), .val (.long i5), .second, .val (.int (6 : Int32)), .val (.int v0), .val (.int v1), .val (.int v2), .val (.ref arr), .unset] (.int v :: []))) → Run K (fun v _ => v = some (.int 1)) T160 (mkF K.m 175 #[.val (.int i0), .val (.int i1), .val (.int i2), .val (.int i3), .val (.int i4), .val (.long i5), .second, .val (.int (6 : Int32)), .val (.int v0), .val (.int v1), .val (.int v2), .val (.ref arr), .unset] []) := by
      intro kj
      refine r_iload X160 cx L_175 rfl ?_
      refine r_iconst (3) X160 cx L_177 rfl ?_
      refine r_icmplt X160 cx L_178 (fun c => absurd c (by decide)) (fun _ => ?_)
      refine r_iload X160 cx L_181 rfl ?_
      refine r_sipush (255) X160 cx L_183 rfl ?_
      refine r_icmpne X160 cx L_186 (fun c186 => ?_) (fun c186 => ?_)
      · refine r_iconst (0) X160 cx L_209 rfl ?_
        exact kj _ (by rw [own_jp p_v0 p_v1 p_v2]; simp [c186])
      · refine r_iload X160 cx L_189 rfl ?_
        refine r_sipush (216) X160 cx L_191 rfl ?_
        refine r_icmpne X160 cx L_194 (fun c194 => ?_) (fun c194 => ?_)
        · refine r_iconst (0) X160 cx L_209 rfl ?_
          exact kj _ (by rw [own_jp p_v0 p_v1 p_v2]; simp [c186, c194])
        · refine r_iload X160 cx L_197 rfl ?_
          refine r_sipush (255) X160 cx L_199 rfl ?_
          refine r_icmpne X160 cx L_202 (fun c202 => ?_) (fun c202 => ?_)
          · refine r_iconst (0) X160 cx L_209 rfl ?_
            exact kj _ (by rw [own_jp p_v0 p_v1 p_v2]; simp [c186, c194, c202])
          · refine r_iconst (1) X160 cx L_205 rfl ?_
            refine r_goto X160 cx L_206 ?_
            exact kj _ (by rw [own_jp p_v0 p_v1 p_v2]; simp [c186, c194, c202])
    refine kj210 (fun ex p_ex => ?_)
    refine r_istore (fun zz => #[.val (.int i0), .val (.int i1), .val (.int i2), .val (.int i3), .val (.int i4), .val (.long i5), .second, .val (.int (6 : Int32)), .val (.int v0), .val (.int v1), .val (.int v2), .val (.ref arr), .val (.int zz)]) X160 cx L_210 (fun _ => rfl) (fun i211 e_i211 => ?_)
    replace e_i211 := e_i211.symm
    subst e_i211
    refine r_aload X160 cx L_212 rfl ?_
    refine r_static [(.ref arr)] [] X160 cx L_214 (hw.get 1 rfl) (hw.get 2 rfl) (hw.get 3 rfl) (hw.get 4 rfl) (by decide) (con_P42m2 K.l K.Z a0 hw arr h160 K.n0 X160.ge [(nar .byte (Int8.toInt32 (Int32.toInt8 v0))), (nar .byte (Int8.toInt32 (Int32.toInt8 v1))), (nar .byte (Int8.toInt32 (Int32.toInt8 v2))), (nar .byte (Int8.toInt32 (Int32.toInt8 (Int64.toInt32 i5)))), (nar .byte (Int8.toInt32 (Int32.toInt8 (Int64.toInt32 (XT.ushrL i5 (8 : Int32)))))), (nar .byte (Int8.toInt32 (Int32.toInt8 (Int64.toInt32 (XT.ushrL i5 (16 : Int32))))))] A_arr) (lenOf pd_0 rfl) rfl rfl (by decide) (leb rfl) (by decide) (by decide) (fun T212 h212 v212 X212 q212 => ?_) (fun _ _ q => Nat.le_of_eq (congrArg Array.size q.1))
    obtain ⟨rfl, rfl⟩ := q212
    refine r_iload X212 cx L_217 rfl ?_
    refine r_icmpne X212 cx L_219 (fun c219 => ?_) (fun c219 => ?_)
    · exact absurd p_ex.symm c219
    · refine r_iconst (1) X212 cx L_222 rfl ?_
      refine r_goto X212 cx L_223 ?_
      refine r_zreturn X212 cx L_227 (by decide) (by decide) ?_
      rfl
  · obtain rfl : n7 = (7 : Int32) := e_n7.trans m7
    refine r_iload X0 cx L_64 rfl ?_
    refine r_newarray X0 cx L_66 (hw.get 0 rfl) (7) 7 rfl (Nat.le_refl _) (by decide) (by decide) (by decide) (fun T154 h154 arr ea154 g_arr X154 Ex154 A154 => ?_)
    have A_arr : AI .byte K.Z h154 arr [0, 0, 0, 0, 0, 0, 0] := AI.new A154
    refine r_astore #[.val (.int i0), .val (.int i1), .val (.int i2), .val (.int i3), .val (.int i4), .val (.long i5), .second, .val (.int (7 : Int32)), .val (.int v0), .val (.int v1), .val (.int v2), .val (.ref arr), .unset] X154 cx L_68 rfl ?_
    refine r_iload X154 cx L_70 rfl ?_
    refine r_ifle X154 cx L_72 (fun c => absurd c (by decide)) (fun _ => ?_)
    refine r_aload X154 cx L_75 rfl ?_
    refine r_iconst (0) X154 cx L_77 rfl ?_
    refine r_iload X154 cx L_78 rfl ?_
    refine r_i2b X154 cx L_80 ?_
    refine r_bastore X154 cx L_81 A_arr (0) rfl (ltb rfl) g_arr (fun T155 h155 X155 W155 N155 => ?_)
    have A_arr : AI .byte K.Z h155 arr [(nar .byte (Int8.toInt32 (Int32.toInt8 v0))), 0, 0, 0, 0, 0, 0] := N155
    refine r_iload X155 cx L_82 rfl ?_
    refine r_iconst (1) X155 cx L_84 rfl ?_
    refine r_icmple X155 cx L_85 (fun c => absurd c (by decide)) (fun _ => ?_)
    refine r_aload X155 cx L_88 rfl ?_
    refine r_iconst (1) X155 cx L_90 rfl ?_
    refine r_iload X155 cx L_91 rfl ?_
    refine r_i2b X155 cx L_93 ?_
    refine r_bastore X155 cx L_94 A_arr (1) rfl (ltb rfl) g_arr (fun T156 h156 X156 W156 N156 => ?_)
    have A_arr : AI .byte K.Z h156 arr [(nar .byte (Int8.toInt32 (Int32.toInt8 v0))), (nar .byte (Int8.toInt32 (Int32.toInt8 v1))), 0, 0, 0, 0, 0] := N156
    refine r_iload X156 cx L_95 rfl ?_
    refine r_iconst (2) X156 cx L_97 rfl ?_
    refine r_icmple X156 cx L_98 (fun c => absurd c (by decide)) (fun _ => ?_)
    refine r_aload X156 cx L_101 rfl ?_
    refine r_iconst (2) X156 cx L_103 rfl ?_
    refine r_iload X156 cx L_104 rfl ?_
    refine r_i2b X156 cx L_106 ?_
    refine r_bastore X156 cx L_107 A_arr (2) rfl (ltb rfl) g_arr (fun T157 h157 X157 W157 N157 => ?_)
    have A_arr : AI .byte K.Z h157 arr [(nar .byte (Int8.toInt32 (Int32.toInt8 v0))), (nar .byte (Int8.toInt32 (Int32.toInt8 v1))), (nar .byte (Int8.toInt32 (Int32.toInt8 v2))), 0, 0, 0, 0] := N157
    refine r_iload X157 cx L_108 rfl ?_
    refine r_iconst (3) X157 cx L_110 rfl ?_
    refine r_icmple X157 cx L_111 (fun c => absurd c (by decide)) (fun _ => ?_)
    refine r_aload X157 cx L_114 rfl ?_
    refine r_iconst (3) X157 cx L_116 rfl ?_
    refine r_lload X157 cx L_117 rfl ?_
    refine r_l2i X157 cx L_119 ?_
    refine r_i2b X157 cx L_120 ?_
    refine r_bastore X157 cx L_121 A_arr (3) rfl (ltb rfl) g_arr (fun T158 h158 X158 W158 N158 => ?_)
    have A_arr : AI .byte K.Z h158 arr [(nar .byte (Int8.toInt32 (Int32.toInt8 v0))), (nar .byte (Int8.toInt32 (Int32.toInt8 v1))), (nar .byte (Int8.toInt32 (Int32.toInt8 v2))), (nar .byte (Int8.toInt32 (Int32.toInt8 (Int64.toInt32 i5)))), 0, 0, 0] := N158
    refine r_iload X158 cx L_122 rfl ?_
    refine r_iconst (4) X158 cx L_124 rfl ?_
    refine r_icmple X158 cx L_125 (fun c => absurd c (by decide)) (fun _ => ?_)
    refine r_aload X158 cx L_128 rfl ?_
    refine r_iconst (4) X158 cx L_130 rfl ?_
    refine r_lload X158 cx L_131 rfl ?_
    refine r_bipush (8) X158 cx L_133 rfl ?_
    refine r_lushr X158 cx L_135 ?_
    refine r_l2i X158 cx L_136 ?_
    refine r_i2b X158 cx L_137 ?_
    refine r_bastore X158 cx L_138 A_arr (4) rfl (ltb rfl) g_arr (fun T159 h159 X159 W159 N159 => ?_)
    have A_arr : AI .byte K.Z h159 arr [(nar .byte (Int8.toInt32 (Int32.toInt8 v0))), (nar .byte (Int8.toInt32 (Int32.toInt8 v1))), (nar .byte (Int8.toInt32 (Int32.toInt8 v2))), (nar .byte (Int8.toInt32 (Int32.toInt8 (Int64.toInt32 i5)))), (nar .byte (Int8.toInt32 (Int32.toInt8 (Int64.toInt32 (XT.ushrL i5 (8 : Int32)))))), 0, 0] := N159
    refine r_iload X159 cx L_139 rfl ?_
    refine r_iconst (5) X159 cx L_141 rfl ?_
    refine r_icmple X159 cx L_142 (fun c => absurd c (by decide)) (fun _ => ?_)
    refine r_aload X159 cx L_145 rfl ?_
    refine r_iconst (5) X159 cx L_147 rfl ?_
    refine r_lload X159 cx L_148 rfl ?_
    refine r_bipush (16) X159 cx L_150 rfl ?_
    refine r_lushr X159 cx L_152 ?_
    refine r_l2i X159 cx L_153 ?_
    refine r_i2b X159 cx L_154 ?_
    refine r_bastore X159 cx L_155 A_arr (5) rfl (ltb rfl) g_arr (fun T160 h160 X160 W160 N160 => ?_)
    have A_arr : AI .byte K.Z h160 arr [(nar .byte (Int8.toInt32 (Int32.toInt8 v0))), (nar .byte (Int8.toInt32 (Int32.toInt8 v1))), (nar .byte (Int8.toInt32 (Int32.toInt8 v2))), (nar .byte (Int8.toInt32 (Int32.toInt8 (Int64.toInt32 i5)))), (nar .byte (Int8.toInt32 (Int32.toInt8 (Int64.toInt32 (XT.ushrL i5 (8 : Int32)))))), (nar .byte (Int8.toInt32 (Int32.toInt8 (Int64.toInt32 (XT.ushrL i5 (16 : Int32)))))), 0] := N160
    refine r_iload X160 cx L_156 rfl ?_
    refine r_bipush (6) X160 cx L_158 rfl ?_
    refine r_icmple X160 cx L_160 (fun c => absurd c (by decide)) (fun _ => ?_)
    refine r_aload X160 cx L_163 rfl ?_
    refine r_bipush (6) X160 cx L_165 rfl ?_
    refine r_lload X160 cx L_167 rfl ?_
    refine r_bipush (24) X160 cx L_169 rfl ?_
    refine r_lushr X160 cx L_171 ?_
    refine r_l2i X160 cx L_172 ?_
    refine r_i2b X160 cx L_173 ?_
    refine r_bastore X160 cx L_174 A_arr (6) rfl (ltb rfl) g_arr (fun T161 h161 X161 W161 N161 => ?_)
    have A_arr : AI .byte K.Z h161 arr [(nar .byte (Int8.toInt32 (Int32.toInt8 v0))), (nar .byte (Int8.toInt32 (Int32.toInt8 v1))), (nar .byte (Int8.toInt32 (Int32.toInt8 v2))), (nar .byte (Int8.toInt32 (Int32.toInt8 (Int64.toInt32 i5)))), (nar .byte (Int8.toInt32 (Int32.toInt8 (Int64.toInt32 (XT.ushrL i5 (8 : Int32)))))), (nar .byte (Int8.toInt32 (Int32.toInt8 (Int64.toInt32 (XT.ushrL i5 (16 : Int32)))))), (nar .byte (Int8.toInt32 (Int32.toInt8 (Int64.toInt32 (XT.ushrL i5 (24 : Int32))))))] := N161
    have kj210 : (∀ v : Int32, (v = own_jpeg [(nar .byte (Int8.toInt32 (Int32.toInt8 v0))), (nar .byte (Int8.toInt32 (Int32.toInt8 v1))), (nar .byte (Int8.toInt32 (Int32.toInt8 v2))), (nar .byte (Int8.toInt32 (Int32.toInt8 (Int64.toInt32 i5)))), (nar .byte (Int8.toInt32 (Int32.toInt8 (Int64.toInt32 (XT.ushrL i5 (8 : Int32)))))), (nar .byte (Int8.toInt32 (Int32.toInt8 (Int64.toInt32 (XT.ushrL i5 (16 : Int32)))))), (nar .byte (Int8.toInt32 (Int32.toInt8 (Int64.toInt32 (XT.ushrL i5 (24 : Int32))))))]) → Run K (fun v _ => v = some (.int 1)) T161 (mkF K.m 210 #[.val (.int i0), .val (.int i1), .val (.int i2), .val (.int i3), .val (.int i4), .val (.long i5), .second, .val (.int (7 : Int32)), .val (.int v0), .val (.int v1), .val (.int v2), .val (.ref arr), .unset] (.int v :: []))) → Run K (fun v _ => v = some (.int 1)) T161 (mkF K.m 175 #[.val (.int i0), .val (.int i1), .val (.int i2), .val (.int i3), .val (.int i4), .val (.long i5), .second, .val (.int (7 : Int32)), .val (.int v0), .val (.int v1), .val (.int v2), .val (.ref arr), .unset] []) := by
      intro kj
      refine r_iload X161 cx L_175 rfl ?_
      refine r_iconst (3) X161 cx L_177 rfl ?_
      refine r_icmplt X161 cx L_178 (fun c => absurd c (by decide)) (fun _ => ?_)
      refine r_iload X161 cx L_181 rfl ?_
      refine r_sipush (255) X161 cx L_183 rfl ?_
      refine r_icmpne X161 cx L_186 (fun c186 => ?_) (fun c186 => ?_)
      · refine r_iconst (0) X161 cx L_209 rfl ?_
        exact kj _ (by rw [own_jp p_v0 p_v1 p_v2]; simp [c186])
      · refine r_iload X161 cx L_189 rfl ?_
        refine r_sipush (216) X161 cx L_191 rfl ?_
        refine r_icmpne X161 cx L_194 (fun c194 => ?_) (fun c194 => ?_)
        · refine r_iconst (0) X161 cx L_209 rfl ?_
          exact kj _ (by rw [own_jp p_v0 p_v1 p_v2]; simp [c186, c194])
        · refine r_iload X161 cx L_197 rfl ?_
          refine r_sipush (255) X161 cx L_199 rfl ?_
          refine r_icmpne X161 cx L_202 (fun c202 => ?_) (fun c202 => ?_)
          · refine r_iconst (0) X161 cx L_209 rfl ?_
            exact kj _ (by rw [own_jp p_v0 p_v1 p_v2]; simp [c186, c194, c202])
          · refine r_iconst (1) X161 cx L_205 rfl ?_
            refine r_goto X161 cx L_206 ?_
            exact kj _ (by rw [own_jp p_v0 p_v1 p_v2]; simp [c186, c194, c202])
    refine kj210 (fun ex p_ex => ?_)
    refine r_istore (fun zz => #[.val (.int i0), .val (.int i1), .val (.int i2), .val (.int i3), .val (.int i4), .val (.long i5), .second, .val (.int (7 : Int32)), .val (.int v0), .val (.int v1), .val (.int v2), .val (.ref arr), .val (.int zz)]) X161 cx L_210 (fun _ => rfl) (fun i212 e_i212 => ?_)
    replace e_i212 := e_i212.symm
    subst e_i212
    refine r_aload X161 cx L_212 rfl ?_
    refine r_static [(.ref arr)] [] X161 cx L_214 (hw.get 1 rfl) (hw.get 2 rfl) (hw.get 3 rfl) (hw.get 4 rfl) (by decide) (con_P42m2 K.l K.Z a0 hw arr h161 K.n0 X161.ge [(nar .byte (Int8.toInt32 (Int32.toInt8 v0))), (nar .byte (Int8.toInt32 (Int32.toInt8 v1))), (nar .byte (Int8.toInt32 (Int32.toInt8 v2))), (nar .byte (Int8.toInt32 (Int32.toInt8 (Int64.toInt32 i5)))), (nar .byte (Int8.toInt32 (Int32.toInt8 (Int64.toInt32 (XT.ushrL i5 (8 : Int32)))))), (nar .byte (Int8.toInt32 (Int32.toInt8 (Int64.toInt32 (XT.ushrL i5 (16 : Int32)))))), (nar .byte (Int8.toInt32 (Int32.toInt8 (Int64.toInt32 (XT.ushrL i5 (24 : Int32))))))] A_arr) (lenOf pd_0 rfl) rfl rfl (by decide) (leb rfl) (by decide) (by decide) (fun T213 h213 v213 X213 q213 => ?_) (fun _ _ q => Nat.le_of_eq (congrArg Array.size q.1))
    obtain ⟨rfl, rfl⟩ := q213
    refine r_iload X213 cx L_217 rfl ?_
    refine r_icmpne X213 cx L_219 (fun c219 => ?_) (fun c219 => ?_)
    · exact absurd p_ex.symm c219
    · refine r_iconst (1) X213 cx L_222 rfl ?_
      refine r_goto X213 cx L_223 ?_
      refine r_zreturn X213 cx L_227 (by decide) (by decide) ?_
      rfl
set_option maxRecDepth 65536 in
set_option maxHeartbeats 40000000 in
theorem comes_1 {Post : Tables → Env → Array Value → State → Outcome → State → Prop} (hpost : ∀ tb e args s v u, (limb_1_1.after args s (.returned v) u = true ∧ limb_1_2.after args s (.returned v) u = true ∧ True) → FrameEnd s (.returned v) u (Jvm.fieldLocs frame_1_writes args s ++ Jvm.arrayLocs frame_1_arrays args s ++ Jvm.staticLocs frame_1_statics s) 16 128 → Post tb e args s (.returned v) u) :
    ArmFor flags0 classFile x code maxLocals ret World_1 tables_1 room_1 Calls_1 rest_1 Pre_1 Post := by
  intro l hfl _ _ p e ha hc hk s m args below hf hA hF happ hP
  obtain ⟨hcalls, hrest, hpre⟩ := hP
  obtain ⟨-, -, -, hnamed, -, -, -, hat⟩ := (Spec.applies_iff hf).mp happ
  obtain ⟨hg, hn⟩ := and_e (Cond.before_iff.mp (show (Jvm.Cond.and given_1 narrow_1).before args s = true from hpre))
  obtain ⟨gc, r0⟩ := and_e hg
  obtain ⟨g0, r1⟩ := and_e r0
  obtain ⟨g1, r2⟩ := and_e r1
  obtain ⟨g2, r3⟩ := and_e r2
  obtain ⟨g3, r4⟩ := and_e r3
  obtain ⟨g4, r5⟩ := and_e r4
  obtain ⟨w0, w1, w2, w3, w4, w5, rfl⟩ : ∃ w0 w1 w2 w3 w4 w5 : Value, args = #[w0, w1, w2, w3, w4, w5] := by
    have hs : args.size = 6 := by simpa [Cond.value, given_1] using gc
    obtain ⟨L⟩ := args
    match L, hs with
    | [w0, w1, w2, w3, w4, w5], _ => exact ⟨w0, w1, w2, w3, w4, w5, rfl⟩
  have hw : Tb tables_1 #[w0, w1, w2, w3, w4, w5] s := fun d (hd : d ∈ tables_1) => atoms_spec (ws := Jvm.Cond.code x code maxLocals ret :: tables_1) hat d (List.mem_cons_of_mem _ hd)
  obtain ⟨i0, ei0⟩ := is_v g0
  obtain rfl : w0 = (.int i0) := Option.some.inj ei0
  obtain ⟨i1, ei1⟩ := is_v g1
  obtain rfl : w1 = (.int i1) := Option.some.inj ei1
  obtain ⟨i2, ei2⟩ := is_v g2
  obtain rfl : w2 = (.int i2) := Option.some.inj ei2
  obtain ⟨i3, ei3⟩ := is_v g3
  obtain rfl : w3 = (.int i3) := Option.some.inj ei3
  obtain ⟨i4, ei4⟩ := is_v g4
  obtain rfl : w4 = (.int i4) := Option.some.inj ei4
  obtain ⟨i5, ei5⟩ := isL_v r5
  obtain rfl : w5 = (.long i5) := Option.some.inj ei5
  obtain ⟨n, o, h1, h2, h3, _, L, rfl, ⟨rfl, N⟩, hq⟩ := con_L l s _ hw i0 i1 i2 i3 i4 i5 s.heap s.heap.size (Nat.le_refl _) tables_1 p e ha hc hk s m _ below hf ((Spec.applies_iff_loose hf).mp happ).1 ⟨rfl, State.Warmed39.refl s, rfl⟩ trivial
  refine ⟨n, _, h1, h2, h3, hpost _ _ _ _ _ _ ⟨Cond.after_iff.mpr rfl, Cond.after_iff.mpr (eq_i res_at (Term.int_eval (1)) rfl), trivial⟩ ⟨hq.1, hq.2.1, (hq.2.2.sift fun y hy => Or.inr (N y hy)).mono (by decide) (by decide)⟩⟩
theorem main_1_1 : Claimed_1_1 := comes_1 fun _ _ _ _ _ _ h hF => ⟨h.1, hF⟩
theorem main_1_2 : Claimed_1_2 := comes_1 fun _ _ _ _ _ _ h hF => ⟨h.2.1, hF⟩
end Jvm.Pilot.@@N@@
namespace Jvm.Pilot.@@N@@
open Jvm Jvm.ClassFile Sem Op Lib Jvm.Free Jvm.Stand Jvm.Pilot.@@N@@.Jvm.D
/-! MADE BY PROGRAM (witnessworld.py) out of the Statement's table words and the real class files: 9 classes; the members and pool entries that the words name. The judged class is class 1, her method 1. -/
namespace start1
open Jvm.ClassFile
def u (s : String) : CpInfo := .utf8 (stringToUtf16 s)
/-- a pool by its gaps: so many unusable entries, then the entry; so many at the end -/
def gap : Nat → List CpInfo → List CpInfo
  | 0, r => r
  | n + 1, r => .unusable :: gap n r
def poolList (es : List (Nat × CpInfo)) (last : Nat) : List CpInfo := es.foldr (fun e r => gap e.1 (e.2 :: r)) (gap last [])
def pool (es : List (Nat × CpInfo)) (last : Nat) : Array CpInfo := ⟨poolList es last⟩
def fileOf (pool : Array CpInfo) (this : Nat) (attrs : Array Attribute := #[]) (ms : Array MethodInfo := #[]) (fl : Nat := 33) (sup : Nat := 0) (ifs : Array Nat := #[]) (fds : Array FieldInfo := #[]) : ClassFile where
  minorVersion := 0
  majorVersion := 65
  constantPool := pool
  accessFlags := fl
  thisClass := this
  superClass := sup
  interfaces := ifs
  fields := fds
  methods := ms
  attributes := attrs
def plain (name : String) (sup : Option ClassId) : Class where
  name := name
  kind := .ordinary
  loader := none
  accessFlags := 33
  super := sup
  interfaces := #[]
  cf := none
  fields := #[]
  methods := #[]
  instanceTypes := #[]
  staticTypes := #[]
  resolved := #[]
  callSites := []
  init := .initialized
  statics := none
  mirror := none

def pool0 : Array CpInfo := pool [(5, u "<init>"), (0, u "()V"), (1, .class_ 10), (1, u "java/lang/Object")] 113

def k0m0 : Method := { name := "<init>", desc := "()V", sig := { parameters := [], returnType := none }, accessFlags := 1, code := none }
/-- java/lang/Object -/
def k0 : Class := { plain "java/lang/Object" none with
  accessFlags := 33
  interfaces := #[]
  cf := some (fileOf pool0 8 #[] #[{ accessFlags := 1, nameIndex := 5, descriptorIndex := 6, attributes := #[] }] 33 0 #[] #[])
  fields := #[]
  methods := #[k0m0]
  instanceTypes := #[]
  staticTypes := #[]
  resolved := Array.replicate 124 none
  statics := none }

def pool1 : Array CpInfo := pool [(2, .class_ 4), (1, u "java/lang/Object"), (0, u "<init>"), (0, u "()V"), (0, .methodref 8 9), (0, .class_ 10), (0, .nameAndType 11 12), (0, u (site_214.cls)), (0, u "isJpeg"), (0, u "([B)Z"), (0, .class_ 14), (0, u (x.cls)), (2, u "law"), (0, u "(IIIIIJ)Z")] 5

def k1m0 : Method := { name := "<init>", desc := "()V", sig := { parameters := [], returnType := none }, accessFlags := 1, code := none }
def k1c1 : Code := { maxStack := 5, maxLocals := 13, code := code, exceptionTable := #[], attributes := #[] }
def k1m1 : Method := { name := "law", desc := "(IIIIIJ)Z", sig := { parameters := [.int, .int, .int, .int, .int, .long], returnType := some .boolean }, accessFlags := 9, code := some k1c1 }
def k1 : Class := { plain (x.cls) (some 0) with
  accessFlags := 49
  interfaces := #[]
  cf := some (fileOf pool1 13 #[] #[{ accessFlags := 1, nameIndex := 5, descriptorIndex := 6, attributes := #[] }, { accessFlags := 9, nameIndex := 17, descriptorIndex := 18, attributes := #[] }] 49 2 #[] #[])
  fields := #[]
  methods := #[k1m0, k1m1]
  instanceTypes := #[]
  staticTypes := #[]
  resolved := Array.replicate 24 none
  statics := none }

def pool2 : Array CpInfo := pool [(2, .class_ 4), (1, u "java/lang/Object"), (3, .class_ 10), (1, u (site_214.cls)), (0, u "file"), (0, u "[B"), (2, u "frame"), (0, u "java/lang/Object"), (8, u "scans"), (0, u "Ljava/util/List;"), (2, u "quantization"), (0, u "[[I"), (2, u "colourSpace"), (0, u "java/lang/Object"), (2, u "estimation"), (0, u "java/lang/Object"), (6, u "isJpeg"), (0, u "([B)Z"), (35, .class_ 83), (0, u "java/lang/Object"), (6, u "MAX_SCANS"), (0, u "I")] 36

def k2c0 : Code := { maxStack := 2, maxLocals := 1, code := prog_42_method_2_code, exceptionTable := #[], attributes := #[] }
def k2m0 : Method := { name := "isJpeg", desc := "([B)Z", sig := { parameters := [(.array .byte)], returnType := some .boolean }, accessFlags := 9, code := some k2c0 }
def k2 : Class := { plain (site_214.cls) (some 0) with
  accessFlags := 49
  interfaces := #[]
  cf := some (fileOf pool2 8 #[.nestMembers #[82]] #[{ accessFlags := 9, nameIndex := 45, descriptorIndex := 46, attributes := #[] }] 49 2 #[] #[{ accessFlags := 25, nameIndex := 90, descriptorIndex := 91, attributes := #[] }, { accessFlags := 18, nameIndex := 11, descriptorIndex := 12, attributes := #[] }, { accessFlags := 18, nameIndex := 15, descriptorIndex := 16, attributes := #[] }, { accessFlags := 18, nameIndex := 25, descriptorIndex := 26, attributes := #[] }, { accessFlags := 18, nameIndex := 29, descriptorIndex := 30, attributes := #[] }, { accessFlags := 18, nameIndex := 33, descriptorIndex := 34, attributes := #[] }, { accessFlags := 18, nameIndex := 37, descriptorIndex := 38, attributes := #[] }])
  fields := #[{ name := "MAX_SCANS", type := .int, accessFlags := 25, slot := 0, constantValue := 0 }, { name := "file", type := (.array .byte), accessFlags := 18, slot := 0, constantValue := 0 }, { name := "frame", type := (.object "java/lang/Object"), accessFlags := 18, slot := 1, constantValue := 0 }, { name := "scans", type := (.object "java/util/List"), accessFlags := 18, slot := 2, constantValue := 0 }, { name := "quantization", type := (.array (.array .int)), accessFlags := 18, slot := 3, constantValue := 0 }, { name := "colourSpace", type := (.object "java/lang/Object"), accessFlags := 18, slot := 4, constantValue := 0 }, { name := "estimation", type := (.object "java/lang/Object"), accessFlags := 18, slot := 5, constantValue := 0 }]
  methods := #[k2m0]
  instanceTypes := #[(.array .byte), (.object "java/lang/Object"), (.object "java/util/List"), (.array (.array .int)), (.object "java/lang/Object"), (.object "java/lang/Object")]
  staticTypes := #[.int]
  resolved := Array.replicate 128 none
  statics := none }

def pool3 : Array CpInfo := pool [(1, u "java/lang/Cloneable"), (0, .class_ 1), (0, u "java/lang/Object"), (0, .class_ 3)] 3

/-- java/lang/Cloneable -/
def k3 : Class := { plain "java/lang/Cloneable" (some 0) with
  accessFlags := 1537
  interfaces := #[]
  cf := some (fileOf pool3 2 #[] #[] 1537 4 #[] #[])
  fields := #[]
  methods := #[]
  instanceTypes := #[]
  staticTypes := #[]
  resolved := Array.replicate 8 none
  statics := none }

def pool4 : Array CpInfo := pool [(1, u "java/io/Serializable"), (0, .class_ 1), (0, u "java/lang/Object"), (0, .class_ 3)] 3

/-- java/io/Serializable -/
def k4 : Class := { plain "java/io/Serializable" (some 0) with
  accessFlags := 1537
  interfaces := #[]
  cf := some (fileOf pool4 2 #[] #[] 1537 4 #[] #[])
  fields := #[]
  methods := #[]
  instanceTypes := #[]
  staticTypes := #[]
  resolved := Array.replicate 8 none
  statics := none }

/-- the primitive byte -/
def k5 : Class := { plain "byte" none with kind := .primitive 'B', accessFlags := 0x411 }
/-- [B -/
def k6 : Class := { plain "[B" (some 0) with kind := .array 5 .byte, interfaces := #[3, 4], accessFlags := 1041 }

/-- the primitive int -/
def k7 : Class := { plain "int" none with kind := .primitive 'I', accessFlags := 0x411 }
/-- [I -/
def k8 : Class := { plain "[I" (some 0) with kind := .array 7 .int, interfaces := #[3, 4], accessFlags := 1041 }

def heap : Heap := #[]
def classes : Array Class := #[k0, k1, k2, k3, k4, k5, k6, k7, k8]
def interned : List (Array UInt16 × Addr) := []
def slotsUsed : Nat := 0
def theMethod : MethodId := ⟨1, 1⟩
def args0 : Array Value := #[.int 5, .int 6, .int 7, .int 8, .int 9, .long 10]
def aboutOver (below : List Frame) : State where
  vm := { classes := classes, interned := interned.toArray }
  heap := heap
  slotsUsed := slotsUsed
  threads := #[{ frames := .invoking theMethod args0 :: below }]
def below0 : List Frame := [.native { method := ⟨0, 0⟩, args := #[] }]
def about1 : State := aboutOver below0
def p0 : Program := .bare "" "" ""
def e0 : Env := launch0.env 0 0 0
theorem w_frames : about1.frames = Frame.invoking theMethod args0 :: below0 := rfl
set_option maxRecDepth 65536 in
theorem w_args : argsFit about1.vm theMethod args0 = true := by decide +kernel
set_option maxRecDepth 65536 in
theorem w_heap : heapFits about1 = true := by decide +kernel
set_option maxRecDepth 65536 in
theorem w_runnable : about1.curStatus? = some .runnable := by decide +kernel
set_option maxRecDepth 65536 in
theorem w_alone : about1.alone = true := by decide +kernel
set_option maxRecDepth 65536 in
theorem w_named : about1.methodNamed? x = some theMethod := by decide +kernel
set_option maxRecDepth 65536 in
theorem w_hears : about1.hears theMethod below0 = true := by decide +kernel
set_option maxRecDepth 65536 in
theorem w_ripe : about1.ripe theMethod args0 below0 = true := by decide +kernel
theorem w_running : about1.status = .running := rfl
set_option maxRecDepth 65536 in
theorem w_room : about1.hasRoom e0.platform room_1 = true :=
  launch0.hasRoom_least _ room_1 (by decide +kernel) (by decide +kernel) (by decide +kernel) (by decide +kernel) (by decide +kernel) (by decide +kernel)
theorem allAtoms_all (ts : List Jvm.Cond) (a : Array Jvm.Value) (st : Jvm.State) : (allAtoms ts).before a st = ts.all (fun c => c.before a st) := by
  induction ts with
  | nil => rfl
  | cons c t ih =>
    show (Jvm.Cond.and c (allAtoms t)).before a st = _
    rw [Jvm.Cond.before_and, ih, List.all_cons]
def words1 : List Jvm.Cond := Jvm.Cond.code x code maxLocals ret :: tables_1
/-- a 'code' word, met by the world's own term for the bytes: nothing is compared byte by byte -/
theorem code_word {y : MethodName} {bytes : ByteArray} {mx : Nat} {rt : Option FieldType} {a : Array Value} {s : State} {m : MethodId} {meth : Method} {c : Code} (h1 : s.methodNamed? y = some m) (h2 : s.vm.method? m = some meth) (h3 : meth.code = some c) (h4 : c.code = bytes)
    (h5 : (c.maxLocals == mx && c.exceptionTable.isEmpty && decide (c.maxStack ≤ mostOperands) && decide (meth.sig.returnType = rt) && !meth.locks && decide (parseMethodDescriptor y.desc = some meth.sig)) = true) : (Jvm.Cond.code y bytes mx rt).before a s = true := by
  simp only [Bool.and_eq_true, beq_iff_eq, Bool.not_eq_true', decide_eq_true_eq] at h5
  obtain ⟨⟨⟨⟨⟨g1, g2⟩, g3⟩, g4⟩, g5⟩, g6⟩ := h5
  simp [Cond.before, Cond.holds, Cond.value, h1, h2, h3, h4, g1, g2, g3, g4, g5, g6]
def isCode : Jvm.Cond → Bool
  | .code _ _ _ _ => true
  | _ => false
theorem all_split {L : List Jvm.Cond} {P : Jvm.Cond → Bool} (h1 : L.all (fun c => isCode c || P c) = true) (h2 : ∀ c ∈ L.filter isCode, P c = true) : L.all P = true := by
  refine List.all_eq_true.mpr fun c hc => ?_
  have h := List.all_eq_true.mp h1 c hc
  rcases Bool.eq_false_or_eq_true (isCode c) with hi | hi
  · exact h2 c (List.mem_filter.mpr ⟨hc, hi⟩)
  · simpa [hi] using h
set_option maxRecDepth 65536 in
theorem w_c0 : (Jvm.Cond.code x code maxLocals ret).before args0 about1 = true := code_word (m := ⟨1, 1⟩) (meth := k1m1) (c := k1c1) (by decide +kernel) rfl rfl rfl (by decide +kernel)
set_option maxRecDepth 65536 in
theorem w_c1 : (Jvm.Cond.code site_214 prog_42_method_2_code (1 : Nat) (Option.some Jvm.ClassFile.FieldType.boolean)).before args0 about1 = true := code_word (m := ⟨2, 0⟩) (meth := k2m0) (c := k2c0) (by decide +kernel) rfl rfl rfl (by decide +kernel)
def codes1 : List Jvm.Cond := [Jvm.Cond.code x code maxLocals ret, Jvm.Cond.code site_214 prog_42_method_2_code (1 : Nat) (Option.some Jvm.ClassFile.FieldType.boolean)]
set_option maxRecDepth 65536 in
theorem codes_eq : words1.filter isCode = codes1 := rfl
theorem w_codes : ∀ c ∈ words1.filter isCode, c.before args0 about1 = true := by
  rw [codes_eq]
  intro c hc
  simp only [codes1, List.mem_cons, List.not_mem_nil, or_false] at hc
  rcases hc with rfl | rfl
  · exact w_c0
  · exact w_c1
set_option maxRecDepth 65536 in
theorem w_t1 : words1.all (fun c => isCode c || c.before args0 about1) = true := by decide +kernel
theorem w_tables : (allAtoms (Jvm.Cond.code x code maxLocals ret :: tables_1)).before args0 about1 = true := by
  rw [allAtoms_all]
  show words1.all (fun c => c.before args0 about1) = true
  refine all_split ?_ w_codes
  rw [w_t1]
set_option maxRecDepth 65536 in
theorem w_case : (Jvm.Cond.and given_1 narrow_1).before args0 about1 = true := by decide +kernel
theorem w_applies : (headSpec (Jvm.Cond.code x code maxLocals ret :: tables_1) room_1).applies x e0.platform about1 = true :=
  (Spec.applies_iff w_frames).mpr ⟨w_running, w_runnable, w_alone, w_named, w_hears, w_ripe, w_room, w_tables⟩
theorem atStart : AtStart classFile x code maxLocals ret World_1 tables_1 room_1 Calls_1 rest_1 Pre_1 launch0 p0 e0 about1 theMethod args0 below0 :=
  ⟨lists_1, trivial, launch0.admits_env _ _ _, launch0.least_env, fairChoices_fair.cas, fairChoices_fair.clock, w_frames, w_args, w_heap, w_applies, trivial, trivial, w_case⟩
end start1
theorem witness_1 : WitnessClaimed_1 := ⟨start1.p0, start1.e0, start1.about1, start1.theMethod, start1.args0, start1.below0, start1.atStart⟩
end Jvm.Pilot.@@N@@

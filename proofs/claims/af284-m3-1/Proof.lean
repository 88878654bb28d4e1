import JvmDerived
import JvmDerived.Pilot.@@N@@Statement
import JvmDerived.Pilot.@@N@@Code
set_option linter.unusedVariables false
set_option linter.unusedSimpArgs false
namespace Jvm.Pilot.@@N@@
open Jvm Jvm.ClassFile Sem Op Lib Jvm.Free Jvm.Stand Jvm.LawKit Jvm.RoadKit Bundle Jvm.Pilot.@@N@@.Jvm.D
/-! ## the run in continuation form: 'Go G T g': from T with the top frame g the run ends as G says -/
def Go (p : Program) (e : Env) (below : List Frame) (G : State → Outcome → Prop) (T : State) (g : JFrame) : Prop :=
  ∃ s₂ o, Steps p.tables e below (T.setTop g) s₂ ∧ s₂.status = .running ∧ Ended s₂ below o ∧ G s₂ o
/-- what a contract asks of the end -/
def FinQ (s : State) (Q : Option Value → Heap → List Loc → Prop) (kc ks : Nat) (U' : State) (o : Outcome) : Prop :=
  ∃ v L, o = .returned v ∧ Q v U'.heap L ∧ FrameEnd s o U' L kc ks
/-- a body's contract, as backOf takes it -/
def Met1 (l : Launch) (Z : State) (y : MethodName) (bytes : ByteArray) (maxL : Nat) (rt : Option FieldType) (rm : Room) (as : Array Value) (h0 : Heap) (Q : Option Value → Heap → List Loc → Prop) : Prop :=
  ∀ ws : List Jvm.Cond, MetFree l y (head1 (Jvm.Cond.code y bytes maxL rt :: ws) rm) (fun a U => a = as ∧ Z.Warmed39 U.vm ∧ U.heap = h0) (fun _ _ _ _ _ => True)
    (fun _ U o U' => ∃ v L, o = .returned v ∧ Q v U'.heap L ∧ FrameEnd U o U' L rm.cells rm.slots)
section OwnGo
variable {p : Program} {l : Launch} {e : Env} {R : Room} {s : State} {m : MethodId} {args : Array Value} {below : List Frame} {meth : Method} {c : Code} {T T' : State} {locs : List Loc} {cells slots : Nat} {G : State → Outcome → Prop} {Ls : Array Slot} {st : List Value} {pc : Nat} {bs : ByteArray} {Z : State} {a0 : Array Value} {h : Heap} {g g' : JFrame}
theorem Go.by (q : ∀ t, Steps p.tables e below (T'.setTop g') t → Steps p.tables e below (T.setTop g) t) (k : Go p e below G T' g') : Go p e below G T g := by
  obtain ⟨s₂, o, h1, h2⟩ := k
  exact ⟨s₂, o, q _ h1, h2⟩
theorem own_met_of {Z : State} {y : MethodName} {bytes : ByteArray} {maxL : Nat} {rt : Option FieldType} {rm : Room} {as : Array Value} {h0 : Heap} {Q : Option Value → Heap → List Loc → Prop} {Ls0 : Array Slot} (hpl : plainFor y = true) (ef : ∀ m, entryFrame m as maxL = mkF m 0 Ls0 [])
    (body : ∀ (p : Program) (e : Env) (s : State) (m : MethodId) (below : List Frame) (meth : Method) (c : Code) (s₁ : State), Stand p l e rm s m as below meth c s₁ [] 0 0 → p.tables.exec = Jvm.exec → c.code = bytes → c.maxLocals = maxL → Z.Warmed39 s.vm → s.vm.findClass y.cls = some m.cls → meth.name = y.name → meth.sig.returnType = rt → meth.locks = false → s₁.heap = h0 →
      Go p e below (FinQ s Q rm.cells rm.slots) s₁ (mkF m 0 Ls0 [])) : Met1 l Z y bytes maxL rt rm as h0 Q := by
  intro ws
  refine MetFree.of_bodySF hpl hisR ?_
  intro p e s m args below meth c s₁ Bd hml0 hP hK
  obtain ⟨rfl, hZ, hh⟩ := hP
  have k := body p e s m below meth c s₁ (Stand.of_body Bd) Bd.exec Bd.bytes hml0 hZ (findClass_of_methodNamed Bd.named) (name_of_methodNamed Bd.named Bd.method).1 Bd.returns Bd.notSynchronized (by rw [← hh, Bd.state]; rfl)
  rw [← ef m] at k
  exact k
theorem own_leave {Q : Option Value → Heap → List Loc → Prop} {kc ks : Nat} {v : Option Value} (X : Stand p l e R s m args below meth c T locs cells slots) (hv : meth.sig.returnType = none → v = none) (hlk : meth.locks = false) (hc : cells ≤ kc) (hs : slots ≤ ks) (hQ : Q v T.heap locs)
    (k : ∀ fs, (∀ (f : JFrame) (acts : List Action), f.method = m → f.locked = none → f.entered = [] → (doReturn e (T.setTop f) acts v).1 = T.setFrames fs) → Steps p.tables e below (T.setTop g) (T.setFrames fs)) : Go p e below (FinQ s Q kc ks) T g := by
  obtain ⟨fs, hr, hrun, hended, hW, hsame⟩ := X.leave (v := v) hv hlk
  exact ⟨_, _, k fs hr, hrun, hended, _, _, rfl, hQ, ⟨_, rfl⟩, hW, hsame.mono hc hs⟩
theorem own_retI {Q : Option Value → Heap → List Loc → Prop} {kc ks : Nat} {z : Int32} (X : Stand p l e R s m args below meth c T locs cells slots) (hx : p.tables.exec = Jvm.exec) (hby : c.code = bs) (hret : meth.sig.returnType = some .int) (hlk : meth.locks = false) (hd : decode bs pc = .ok (.ireturn, 1)) (hc : cells ≤ kc) (hs : slots ≤ ks) (hQ : Q (some (.int z)) T.heap locs) : Go p e below (FinQ s Q kc ks) T (mkF m pc Ls (.int z :: st)) := by
  refine own_leave X (fun q => by rw [hret] at q; cases q) hlk hc hs hQ fun fs hr => ?_
  exact retOut X hx hret rfl (Or.inl ⟨rfl, Or.inl rfl, z, rfl⟩) (hb hby hd) hr
theorem own_retN {Q : Option Value → Heap → List Loc → Prop} {kc ks : Nat} {z z' : Int32} {t : FieldType} (X : Stand p l e R s m args below meth c T locs cells slots) (hx : p.tables.exec = Jvm.exec) (hby : c.code = bs) (hret : meth.sig.returnType = some t) (hlk : meth.locks = false) (ht : t = .boolean ∨ t = .byte ∨ t = .char ∨ t = .short) (hd : decode bs pc = .ok (.ireturn, 1)) (hc : cells ≤ kc) (hs : slots ≤ ks) (hn : nar t z = z') (hQ : Q (some (.int z')) T.heap locs) : Go p e below (FinQ s Q kc ks) T (mkF m pc Ls (.int z :: st)) := by
  subst hn
  refine own_leave X (fun q => by rw [hret] at q; cases q) hlk hc hs hQ fun fs hr => ?_
  exact retN X hx hret ht (hb hby hd) hr
theorem own_retA {Q : Option Value → Heap → List Loc → Prop} {kc ks : Nat} {w : Value} {t : FieldType} (X : Stand p l e R s m args below meth c T locs cells slots) (hx : p.tables.exec = Jvm.exec) (hby : c.code = bs) (hret : meth.sig.returnType = some t) (hlk : meth.locks = false) (ht : t.isReference = true) (hw : w.isRef = true) (hn : narrow t w = w) (hd : decode bs pc = .ok (.areturn, 1)) (hc : cells ≤ kc) (hs : slots ≤ ks) (hQ : Q (some w) T.heap locs) : Go p e below (FinQ s Q kc ks) T (mkF m pc Ls (w :: st)) := by
  refine own_leave X (fun q => by rw [hret] at q; cases q) hlk hc hs hQ fun fs hr => ?_
  exact retOut X hx hret hn (Or.inr (Or.inr (Or.inr (Or.inr ⟨rfl, ht, hw⟩)))) (hb hby hd) hr
theorem own_ret {Q : Option Value → Heap → List Loc → Prop} {kc ks : Nat} (X : Stand p l e R s m args below meth c T locs cells slots) (hx : p.tables.exec = Jvm.exec) (hby : c.code = bs) (hret : meth.sig.returnType = none) (hlk : meth.locks = false) (hd : decode bs pc = .ok (.return_, 1)) (hc : cells ≤ kc) (hs : slots ≤ ks) (hQ : Q none T.heap locs) : Go p e below (FinQ s Q kc ks) T (mkF m pc Ls []) := by
  refine own_leave X (fun _ => rfl) hlk hc hs hQ fun fs hr => ?_
  exact X.returnOut hx hret (hb hby hd) hr
theorem own_iload (X : Stand p l e R s m args below meth c T locs cells slots) (hx : p.tables.exec = Jvm.exec) (hby : c.code = bs) {n : Nat} (v : Int32) (hd : decode bs pc = .ok (.iload n, 2)) (hl : Ls[n]? = some (.val (.int v))) (pc' : Nat) (hp : pc + 2 = pc') (k : Go p e below G T (mkF m pc' Ls (.int v :: st))) : Go p e below G T (mkF m pc Ls st) := by
  subst hp
  exact Go.by (fun t q => XS.iload X.here hx rfl (hb hby hd) hl q) k
theorem own_iloadN (X : Stand p l e R s m args below meth c T locs cells slots) (hx : p.tables.exec = Jvm.exec) (hby : c.code = bs) {n : Fin 4} (v : Int32) (hd : decode bs pc = .ok (.iload_n n, 1)) (hl : Ls[n.val]? = some (.val (.int v))) (pc' : Nat) (hp : pc + 1 = pc') (k : Go p e below G T (mkF m pc' Ls (.int v :: st))) : Go p e below G T (mkF m pc Ls st) := by
  subst hp
  exact Go.by (fun t q => XS.iloadN X.here hx rfl (hb hby hd) hl q) k
theorem own_istore (X : Stand p l e R s m args below meth c T locs cells slots) (hx : p.tables.exec = Jvm.exec) (hby : c.code = bs) {n : Nat} {x x' : Int32} (hd : decode bs pc = .ok (.istore n, 2)) (ex : x = x') {l' : Array Slot} (hl : storeLocals Ls n (.int x') = some l') (pc' : Nat) (hp : pc + 2 = pc') (k : Go p e below G T (mkF m pc' l' st)) : Go p e below G T (mkF m pc Ls (.int x :: st)) := by
  subst hp
  subst ex
  exact Go.by (fun t q => XS.istore X.here hx rfl (hb hby hd) rfl hl q) k
theorem own_istoreN (X : Stand p l e R s m args below meth c T locs cells slots) (hx : p.tables.exec = Jvm.exec) (hby : c.code = bs) {n : Fin 4} {x x' : Int32} (hd : decode bs pc = .ok (.istore_n n, 1)) (ex : x = x') {l' : Array Slot} (hl : storeLocals Ls n.val (.int x') = some l') (pc' : Nat) (hp : pc + 1 = pc') (k : Go p e below G T (mkF m pc' l' st)) : Go p e below G T (mkF m pc Ls (.int x :: st)) := by
  subst hp
  subst ex
  exact Go.by (fun t q => XS.istoreN X.here hx rfl (hb hby hd) rfl hl q) k
theorem own_aload (X : Stand p l e R s m args below meth c T locs cells slots) (hx : p.tables.exec = Jvm.exec) (hby : c.code = bs) {n : Nat} (v : Value) (hd : decode bs pc = .ok (.aload n, 2)) (hl : Ls[n]? = some (.val v)) (hv : v.isRef = true) (pc' : Nat) (hp : pc + 2 = pc') (k : Go p e below G T (mkF m pc' Ls (v :: st))) : Go p e below G T (mkF m pc Ls st) := by
  subst hp
  exact Go.by (fun t q => XS.aload X.here hx rfl (hb hby hd) hl hv q) k
theorem own_aloadN (X : Stand p l e R s m args below meth c T locs cells slots) (hx : p.tables.exec = Jvm.exec) (hby : c.code = bs) {n : Fin 4} (v : Value) (hd : decode bs pc = .ok (.aload_n n, 1)) (hl : Ls[n.val]? = some (.val v)) (hv : v.isRef = true) (pc' : Nat) (hp : pc + 1 = pc') (k : Go p e below G T (mkF m pc' Ls (v :: st))) : Go p e below G T (mkF m pc Ls st) := by
  subst hp
  exact Go.by (fun t q => XS.aloadN X.here hx rfl (hb hby hd) hl hv q) k
theorem own_astore (X : Stand p l e R s m args below meth c T locs cells slots) (hx : p.tables.exec = Jvm.exec) (hby : c.code = bs) {n : Nat} {x : Value} (hd : decode bs pc = .ok (.astore n, 2)) (hv : x.isRef = true) {l' : Array Slot} (hl : storeLocals Ls n x = some l') (pc' : Nat) (hp : pc + 2 = pc') (k : Go p e below G T (mkF m pc' l' st)) : Go p e below G T (mkF m pc Ls (x :: st)) := by
  subst hp
  exact Go.by (fun t q => XS.astore X.here hx rfl (hb hby hd) rfl hv hl q) k
theorem own_astoreN (X : Stand p l e R s m args below meth c T locs cells slots) (hx : p.tables.exec = Jvm.exec) (hby : c.code = bs) {n : Fin 4} {x : Value} (hd : decode bs pc = .ok (.astore_n n, 1)) (hv : x.isRef = true) {l' : Array Slot} (hl : storeLocals Ls n.val x = some l') (pc' : Nat) (hp : pc + 1 = pc') (k : Go p e below G T (mkF m pc' l' st)) : Go p e below G T (mkF m pc Ls (x :: st)) := by
  subst hp
  exact Go.by (fun t q => XS.astoreN X.here hx rfl (hb hby hd) rfl hv hl q) k
theorem own_iconst (X : Stand p l e R s m args below meth c T locs cells slots) (hx : p.tables.exec = Jvm.exec) (hby : c.code = bs) {i : Int} (v : Int32) (hd : decode bs pc = .ok (.iconst i, 1)) (hv : Int32.ofInt i = v) (pc' : Nat) (hp : pc + 1 = pc') (k : Go p e below G T (mkF m pc' Ls (.int v :: st))) : Go p e below G T (mkF m pc Ls st) := by
  subst hp
  subst hv
  exact Go.by (fun t q => XS.iconst X.here hx rfl (hb hby hd) q) k
theorem own_bipush (X : Stand p l e R s m args below meth c T locs cells slots) (hx : p.tables.exec = Jvm.exec) (hby : c.code = bs) {i : Int} (v : Int32) (hd : decode bs pc = .ok (.bipush i, 2)) (hv : (Int8.ofInt i).toInt32 = v) (pc' : Nat) (hp : pc + 2 = pc') (k : Go p e below G T (mkF m pc' Ls (.int v :: st))) : Go p e below G T (mkF m pc Ls st) := by
  subst hp
  subst hv
  exact Go.by (fun t q => XS.bipush X.here hx rfl (hb hby hd) q) k
theorem own_sipush (X : Stand p l e R s m args below meth c T locs cells slots) (hx : p.tables.exec = Jvm.exec) (hby : c.code = bs) {i : Int} (v : Int32) (hd : decode bs pc = .ok (.sipush i, 3)) (hv : (Int16.ofInt i).toInt32 = v) (pc' : Nat) (hp : pc + 3 = pc') (k : Go p e below G T (mkF m pc' Ls (.int v :: st))) : Go p e below G T (mkF m pc Ls st) := by
  subst hp
  subst hv
  exact Go.by (fun t q => XS.sipush X.here hx rfl (hb hby hd) q) k
theorem own_aconstNull (X : Stand p l e R s m args below meth c T locs cells slots) (hx : p.tables.exec = Jvm.exec) (hby : c.code = bs)  (hd : decode bs pc = .ok (.aconst_null, 1))  (pc' : Nat) (hp : pc + 1 = pc') (k : Go p e below G T (mkF m pc' Ls (.null :: st))) : Go p e below G T (mkF m pc Ls st) := by
  subst hp
  exact Go.by (fun t q => XS.aconstNull X.here hx rfl (hb hby hd) q) k
theorem own_isub (X : Stand p l e R s m args below meth c T locs cells slots) (hx : p.tables.exec = Jvm.exec) (hby : c.code = bs) {x y : Int32} (hd : decode bs pc = .ok (.isub, 1))  (pc' : Nat) (hp : pc + 1 = pc') (k : Go p e below G T (mkF m pc' Ls (.int (x - y) :: st))) : Go p e below G T (mkF m pc Ls (.int y :: .int x :: st)) := by
  subst hp
  exact Go.by (fun t q => XS.isub X.here hx rfl (hb hby hd) rfl q) k
theorem own_iand (X : Stand p l e R s m args below meth c T locs cells slots) (hx : p.tables.exec = Jvm.exec) (hby : c.code = bs) {x y : Int32} (hd : decode bs pc = .ok (.iand, 1))  (pc' : Nat) (hp : pc + 1 = pc') (k : Go p e below G T (mkF m pc' Ls (.int (x &&& y) :: st))) : Go p e below G T (mkF m pc Ls (.int y :: .int x :: st)) := by
  subst hp
  exact Go.by (fun t q => XS.iand X.here hx rfl (hb hby hd) rfl q) k
theorem own_ior (X : Stand p l e R s m args below meth c T locs cells slots) (hx : p.tables.exec = Jvm.exec) (hby : c.code = bs) {x y : Int32} (hd : decode bs pc = .ok (.ior, 1))  (pc' : Nat) (hp : pc + 1 = pc') (k : Go p e below G T (mkF m pc' Ls (.int (x ||| y) :: st))) : Go p e below G T (mkF m pc Ls (.int y :: .int x :: st)) := by
  subst hp
  exact Go.by (fun t q => XS.ior X.here hx rfl (hb hby hd) rfl q) k
theorem own_ishl (X : Stand p l e R s m args below meth c T locs cells slots) (hx : p.tables.exec = Jvm.exec) (hby : c.code = bs) {x y : Int32} (hd : decode bs pc = .ok (.ishl, 1))  (pc' : Nat) (hp : pc + 1 = pc') (k : Go p e below G T (mkF m pc' Ls (.int (x <<< (y &&& 31)) :: st))) : Go p e below G T (mkF m pc Ls (.int y :: .int x :: st)) := by
  subst hp
  exact Go.by (fun t q => XS.ishl X.here hx rfl (hb hby hd) rfl q) k
theorem own_ishr (X : Stand p l e R s m args below meth c T locs cells slots) (hx : p.tables.exec = Jvm.exec) (hby : c.code = bs) {x y : Int32} (hd : decode bs pc = .ok (.ishr, 1))  (pc' : Nat) (hp : pc + 1 = pc') (k : Go p e below G T (mkF m pc' Ls (.int (x >>> (y &&& 31)) :: st))) : Go p e below G T (mkF m pc Ls (.int y :: .int x :: st)) := by
  subst hp
  exact Go.by (fun t q => XS.ishr X.here hx rfl (hb hby hd) rfl q) k
theorem own_iushr (X : Stand p l e R s m args below meth c T locs cells slots) (hx : p.tables.exec = Jvm.exec) (hby : c.code = bs) {x y : Int32} (hd : decode bs pc = .ok (.iushr, 1))  (pc' : Nat) (hp : pc + 1 = pc') (k : Go p e below G T (mkF m pc' Ls (.int ((x.toUInt32 >>> (y &&& 31).toUInt32).toInt32) :: st))) : Go p e below G T (mkF m pc Ls (.int y :: .int x :: st)) := by
  subst hp
  exact Go.by (fun t q => XS.iushr X.here hx rfl (hb hby hd) rfl q) k
theorem own_i2b (X : Stand p l e R s m args below meth c T locs cells slots) (hx : p.tables.exec = Jvm.exec) (hby : c.code = bs) {x : Int32} (hd : decode bs pc = .ok (.i2b, 1))  (pc' : Nat) (hp : pc + 1 = pc') (k : Go p e below G T (mkF m pc' Ls (.int (x.toInt8.toInt32) :: st))) : Go p e below G T (mkF m pc Ls (.int x :: st)) := by
  subst hp
  exact Go.by (fun t q => XS.i2b X.here hx rfl (hb hby hd) rfl q) k
theorem own_i2c (X : Stand p l e R s m args below meth c T locs cells slots) (hx : p.tables.exec = Jvm.exec) (hby : c.code = bs) {x : Int32} (hd : decode bs pc = .ok (.i2c, 1))  (pc' : Nat) (hp : pc + 1 = pc') (k : Go p e below G T (mkF m pc' Ls (.int (x.toUInt32.toUInt16.toUInt32.toInt32) :: st))) : Go p e below G T (mkF m pc Ls (.int x :: st)) := by
  subst hp
  exact Go.by (fun t q => XS.i2c X.here hx rfl (hb hby hd) rfl q) k
theorem own_irem (X : Stand p l e R s m args below meth c T locs cells slots) (hx : p.tables.exec = Jvm.exec) (hby : c.code = bs) {x y : Int32} (hd : decode bs pc = .ok (.irem, 1)) (hy : y ≠ 0) (pc' : Nat) (hp : pc + 1 = pc') (k : Go p e below G T (mkF m pc' Ls (.int (x % y) :: st))) : Go p e below G T (mkF m pc Ls (.int y :: .int x :: st)) := by
  subst hp
  exact Go.by (fun t q => iremM X hx rfl (hb hby hd) rfl hy q) k
theorem own_iinc (X : Stand p l e R s m args below meth c T locs cells slots) (hx : p.tables.exec = Jvm.exec) (hby : c.code = bs) {n : Nat} {cst : Int} {x x' : Int32} (hd : decode bs pc = .ok (.iinc n cst, 3)) (hl : Ls[n]? = some (.val (.int x))) (ex : x + Int32.ofInt cst = x') {l' : Array Slot} (hl' : storeLocals Ls n (.int x') = some l') (pc' : Nat) (hp : pc + 3 = pc') (k : Go p e below G T (mkF m pc' l' st)) : Go p e below G T (mkF m pc Ls st) := by
  subst hp
  subst ex
  exact Go.by (fun t q => XS.iinc X.here hx rfl (hb hby hd) hl hl' q) k
theorem own_dup (X : Stand p l e R s m args below meth c T locs cells slots) (hx : p.tables.exec = Jvm.exec) (hby : c.code = bs) {x : Value} (hd : decode bs pc = .ok (.dup, 1)) (hc : x.category = 1) (pc' : Nat) (hp : pc + 1 = pc') (k : Go p e below G T (mkF m pc' Ls (x :: x :: st))) : Go p e below G T (mkF m pc Ls (x :: st)) := by
  subst hp
  exact Go.by (fun t q => XS.dup X.here hx rfl (hb hby hd) rfl hc q) k
theorem own_pop (X : Stand p l e R s m args below meth c T locs cells slots) (hx : p.tables.exec = Jvm.exec) (hby : c.code = bs) {x : Value} (hd : decode bs pc = .ok (.pop, 1)) (hc : x.category = 1) (pc' : Nat) (hp : pc + 1 = pc') (k : Go p e below G T (mkF m pc' Ls st)) : Go p e below G T (mkF m pc Ls (x :: st)) := by
  subst hp
  exact Go.by (fun t q => XS.pop X.here hx rfl (hb hby hd) rfl hc q) k
theorem own_goto (X : Stand p l e R s m args below meth c T locs cells slots) (hx : p.tables.exec = Jvm.exec) (hby : c.code = bs) {o : Int} (hd : decode bs pc = .ok (.goto o, 3)) (pc' : Nat) (hp : 0 ≤ (pc : Int) + o ∧ ((pc : Int) + o).toNat = pc') (k : Go p e below G T (mkF m pc' Ls st)) : Go p e below G T (mkF m pc Ls st) :=
  Go.by (fun t q => XS.goto X.here hx rfl rfl (hb hby hd) hp.1 hp.2 q) k
theorem own_top {v v' : Value} (q : v = v') (k : Go p e below G T (mkF m pc Ls (v' :: st))) : Go p e below G T (mkF m pc Ls (v :: st)) := q ▸ k
theorem own_icmp_eq (X : Stand p l e R s m args below meth c T locs cells slots) (hx : p.tables.exec = Jvm.exec) (hby : c.code = bs) {o : Int} {x y : Int32} (hd : decode bs pc = .ok (.if_icmp .eq o, 3)) (pT pF : Nat) (hp : 0 ≤ (pc : Int) + o ∧ ((pc : Int) + o).toNat = pT) (hpF : pc + 3 = pF) (kT : x = y → Go p e below G T (mkF m pT Ls st)) (kF : ¬ x = y → Go p e below G T (mkF m pF Ls st)) : Go p e below G T (mkF m pc Ls (.int y :: .int x :: st)) := by
  subst hpF
  by_cases q0 : x = y
  · have q := q0
    exact Go.by (fun t r => XS.icmpYes X.here hx rfl rfl (hb hby hd) rfl (teq q).1 hp.1 hp.2 r) (kT q0)
  · have q : ¬ x = y := by first | exact q0 | exact Classical.not_not.mp q0
    exact Go.by (fun t r => XS.icmpNo X.here hx rfl (hb hby hd) rfl (feq q).1 r) (kF q)
theorem own_if_eq (X : Stand p l e R s m args below meth c T locs cells slots) (hx : p.tables.exec = Jvm.exec) (hby : c.code = bs) {o : Int} {x : Int32} (hd : decode bs pc = .ok (.ifCond .eq o, 3)) (pT pF : Nat) (hp : 0 ≤ (pc : Int) + o ∧ ((pc : Int) + o).toNat = pT) (hpF : pc + 3 = pF) (kT : x = (0 : Int32) → Go p e below G T (mkF m pT Ls st)) (kF : ¬ x = (0 : Int32) → Go p e below G T (mkF m pF Ls st)) : Go p e below G T (mkF m pc Ls (.int x :: st)) := by
  subst hpF
  by_cases q0 : x = (0 : Int32)
  · have q := q0
    exact Go.by (fun t r => XS.ifYes X.here hx rfl rfl (hb hby hd) rfl ((if0 _ _).trans (teq q).1) hp.1 hp.2 r) (kT q0)
  · have q : ¬ x = (0 : Int32) := by first | exact q0 | exact Classical.not_not.mp q0
    exact Go.by (fun t r => XS.ifNo X.here hx rfl (hb hby hd) rfl ((if0 _ _).trans (feq q).1) r) (kF q)
theorem own_icmp_ne (X : Stand p l e R s m args below meth c T locs cells slots) (hx : p.tables.exec = Jvm.exec) (hby : c.code = bs) {o : Int} {x y : Int32} (hd : decode bs pc = .ok (.if_icmp .ne o, 3)) (pT pF : Nat) (hp : 0 ≤ (pc : Int) + o ∧ ((pc : Int) + o).toNat = pT) (hpF : pc + 3 = pF) (kT : ¬ x = y → Go p e below G T (mkF m pT Ls st)) (kF : x = y → Go p e below G T (mkF m pF Ls st)) : Go p e below G T (mkF m pc Ls (.int y :: .int x :: st)) := by
  subst hpF
  by_cases q0 : ¬ x = y
  · have q := q0
    exact Go.by (fun t r => XS.icmpYes X.here hx rfl rfl (hb hby hd) rfl (feq q).2 hp.1 hp.2 r) (kT q0)
  · have q : x = y := by first | exact q0 | exact Classical.not_not.mp q0
    exact Go.by (fun t r => XS.icmpNo X.here hx rfl (hb hby hd) rfl (teq q).2 r) (kF q)
theorem own_if_ne (X : Stand p l e R s m args below meth c T locs cells slots) (hx : p.tables.exec = Jvm.exec) (hby : c.code = bs) {o : Int} {x : Int32} (hd : decode bs pc = .ok (.ifCond .ne o, 3)) (pT pF : Nat) (hp : 0 ≤ (pc : Int) + o ∧ ((pc : Int) + o).toNat = pT) (hpF : pc + 3 = pF) (kT : ¬ x = (0 : Int32) → Go p e below G T (mkF m pT Ls st)) (kF : x = (0 : Int32) → Go p e below G T (mkF m pF Ls st)) : Go p e below G T (mkF m pc Ls (.int x :: st)) := by
  subst hpF
  by_cases q0 : ¬ x = (0 : Int32)
  · have q := q0
    exact Go.by (fun t r => XS.ifYes X.here hx rfl rfl (hb hby hd) rfl ((if0 _ _).trans (feq q).2) hp.1 hp.2 r) (kT q0)
  · have q : x = (0 : Int32) := by first | exact q0 | exact Classical.not_not.mp q0
    exact Go.by (fun t r => XS.ifNo X.here hx rfl (hb hby hd) rfl ((if0 _ _).trans (teq q).2) r) (kF q)
theorem own_icmp_lt (X : Stand p l e R s m args below meth c T locs cells slots) (hx : p.tables.exec = Jvm.exec) (hby : c.code = bs) {o : Int} {x y : Int32} (hd : decode bs pc = .ok (.if_icmp .lt o, 3)) (pT pF : Nat) (hp : 0 ≤ (pc : Int) + o ∧ ((pc : Int) + o).toNat = pT) (hpF : pc + 3 = pF) (kT : x < y → Go p e below G T (mkF m pT Ls st)) (kF : ¬ x < y → Go p e below G T (mkF m pF Ls st)) : Go p e below G T (mkF m pc Ls (.int y :: .int x :: st)) := by
  subst hpF
  by_cases q0 : x < y
  · have q := q0
    exact Go.by (fun t r => XS.icmpYes X.here hx rfl rfl (hb hby hd) rfl (tlt q).1 hp.1 hp.2 r) (kT q0)
  · have q : ¬ x < y := by first | exact q0 | exact Classical.not_not.mp q0
    exact Go.by (fun t r => XS.icmpNo X.here hx rfl (hb hby hd) rfl (flt q).1 r) (kF q)
theorem own_if_lt (X : Stand p l e R s m args below meth c T locs cells slots) (hx : p.tables.exec = Jvm.exec) (hby : c.code = bs) {o : Int} {x : Int32} (hd : decode bs pc = .ok (.ifCond .lt o, 3)) (pT pF : Nat) (hp : 0 ≤ (pc : Int) + o ∧ ((pc : Int) + o).toNat = pT) (hpF : pc + 3 = pF) (kT : x < (0 : Int32) → Go p e below G T (mkF m pT Ls st)) (kF : ¬ x < (0 : Int32) → Go p e below G T (mkF m pF Ls st)) : Go p e below G T (mkF m pc Ls (.int x :: st)) := by
  subst hpF
  by_cases q0 : x < (0 : Int32)
  · have q := q0
    exact Go.by (fun t r => XS.ifYes X.here hx rfl rfl (hb hby hd) rfl ((if0 _ _).trans (tlt q).1) hp.1 hp.2 r) (kT q0)
  · have q : ¬ x < (0 : Int32) := by first | exact q0 | exact Classical.not_not.mp q0
    exact Go.by (fun t r => XS.ifNo X.here hx rfl (hb hby hd) rfl ((if0 _ _).trans (flt q).1) r) (kF q)
theorem own_icmp_ge (X : Stand p l e R s m args below meth c T locs cells slots) (hx : p.tables.exec = Jvm.exec) (hby : c.code = bs) {o : Int} {x y : Int32} (hd : decode bs pc = .ok (.if_icmp .ge o, 3)) (pT pF : Nat) (hp : 0 ≤ (pc : Int) + o ∧ ((pc : Int) + o).toNat = pT) (hpF : pc + 3 = pF) (kT : ¬ x < y → Go p e below G T (mkF m pT Ls st)) (kF : x < y → Go p e below G T (mkF m pF Ls st)) : Go p e below G T (mkF m pc Ls (.int y :: .int x :: st)) := by
  subst hpF
  by_cases q0 : ¬ x < y
  · have q := q0
    exact Go.by (fun t r => XS.icmpYes X.here hx rfl rfl (hb hby hd) rfl (flt q).2.1 hp.1 hp.2 r) (kT q0)
  · have q : x < y := by first | exact q0 | exact Classical.not_not.mp q0
    exact Go.by (fun t r => XS.icmpNo X.here hx rfl (hb hby hd) rfl (tlt q).2.1 r) (kF q)
theorem own_if_ge (X : Stand p l e R s m args below meth c T locs cells slots) (hx : p.tables.exec = Jvm.exec) (hby : c.code = bs) {o : Int} {x : Int32} (hd : decode bs pc = .ok (.ifCond .ge o, 3)) (pT pF : Nat) (hp : 0 ≤ (pc : Int) + o ∧ ((pc : Int) + o).toNat = pT) (hpF : pc + 3 = pF) (kT : ¬ x < (0 : Int32) → Go p e below G T (mkF m pT Ls st)) (kF : x < (0 : Int32) → Go p e below G T (mkF m pF Ls st)) : Go p e below G T (mkF m pc Ls (.int x :: st)) := by
  subst hpF
  by_cases q0 : ¬ x < (0 : Int32)
  · have q := q0
    exact Go.by (fun t r => XS.ifYes X.here hx rfl rfl (hb hby hd) rfl ((if0 _ _).trans (flt q).2.1) hp.1 hp.2 r) (kT q0)
  · have q : x < (0 : Int32) := by first | exact q0 | exact Classical.not_not.mp q0
    exact Go.by (fun t r => XS.ifNo X.here hx rfl (hb hby hd) rfl ((if0 _ _).trans (tlt q).2.1) r) (kF q)
theorem own_icmp_gt (X : Stand p l e R s m args below meth c T locs cells slots) (hx : p.tables.exec = Jvm.exec) (hby : c.code = bs) {o : Int} {x y : Int32} (hd : decode bs pc = .ok (.if_icmp .gt o, 3)) (pT pF : Nat) (hp : 0 ≤ (pc : Int) + o ∧ ((pc : Int) + o).toNat = pT) (hpF : pc + 3 = pF) (kT : y < x → Go p e below G T (mkF m pT Ls st)) (kF : ¬ y < x → Go p e below G T (mkF m pF Ls st)) : Go p e below G T (mkF m pc Ls (.int y :: .int x :: st)) := by
  subst hpF
  by_cases q0 : y < x
  · have q := q0
    exact Go.by (fun t r => XS.icmpYes X.here hx rfl rfl (hb hby hd) rfl (tlt q).2.2.1 hp.1 hp.2 r) (kT q0)
  · have q : ¬ y < x := by first | exact q0 | exact Classical.not_not.mp q0
    exact Go.by (fun t r => XS.icmpNo X.here hx rfl (hb hby hd) rfl (flt q).2.2.1 r) (kF q)
theorem own_icmp_le (X : Stand p l e R s m args below meth c T locs cells slots) (hx : p.tables.exec = Jvm.exec) (hby : c.code = bs) {o : Int} {x y : Int32} (hd : decode bs pc = .ok (.if_icmp .le o, 3)) (pT pF : Nat) (hp : 0 ≤ (pc : Int) + o ∧ ((pc : Int) + o).toNat = pT) (hpF : pc + 3 = pF) (kT : ¬ y < x → Go p e below G T (mkF m pT Ls st)) (kF : y < x → Go p e below G T (mkF m pF Ls st)) : Go p e below G T (mkF m pc Ls (.int y :: .int x :: st)) := by
  subst hpF
  by_cases q0 : ¬ y < x
  · have q := q0
    exact Go.by (fun t r => XS.icmpYes X.here hx rfl rfl (hb hby hd) rfl (flt q).2.2.2 hp.1 hp.2 r) (kT q0)
  · have q : y < x := by first | exact q0 | exact Classical.not_not.mp q0
    exact Go.by (fun t r => XS.icmpNo X.here hx rfl (hb hby hd) rfl (tlt q).2.2.2 r) (kF q)
theorem own_if_le (X : Stand p l e R s m args below meth c T locs cells slots) (hx : p.tables.exec = Jvm.exec) (hby : c.code = bs) {o : Int} {x : Int32} (hd : decode bs pc = .ok (.ifCond .le o, 3)) (pT pF : Nat) (hp : 0 ≤ (pc : Int) + o ∧ ((pc : Int) + o).toNat = pT) (hpF : pc + 3 = pF) (kT : ¬ (0 : Int32) < x → Go p e below G T (mkF m pT Ls st)) (kF : (0 : Int32) < x → Go p e below G T (mkF m pF Ls st)) : Go p e below G T (mkF m pc Ls (.int x :: st)) := by
  subst hpF
  by_cases q0 : ¬ (0 : Int32) < x
  · have q := q0
    exact Go.by (fun t r => XS.ifYes X.here hx rfl rfl (hb hby hd) rfl ((if0 _ _).trans (flt q).2.2.2) hp.1 hp.2 r) (kT q0)
  · have q : (0 : Int32) < x := by first | exact q0 | exact Classical.not_not.mp q0
    exact Go.by (fun t r => XS.ifNo X.here hx rfl (hb hby hd) rfl ((if0 _ _).trans (tlt q).2.2.2) r) (kF q)
theorem own_ldc (X : Stand p l e R s m args below meth c T locs cells slots) (hx : p.tables.exec = Jvm.exec) (hby : c.code = bs) (hZ : Z.Warmed39 s.vm) {own : String} {idx : Nat} (v : Int32) (hown : s.vm.findClass own = some m.cls) (w : (Jvm.Cond.constant own idx v).before a0 Z = true) (hd : decode bs pc = .ok (.ldc idx, 2)) (pc' : Nat) (hp : pc + 2 = pc') (k : Go p e below G T (mkF m pc' Ls (.int v :: st))) : Go p e below G T (mkF m pc Ls st) := by
  subst hp
  exact Go.by (fun t q => X.ldcInt hx hown (mvT hZ w) (g := mkF m pc Ls st) rfl (hb hby hd) t q) k
theorem own_callS (X : Stand p l e R s m args below meth c T locs cells slots) (hx : p.tables.exec = Jvm.exec) (hby : c.code = bs) (hZ : Z.Warmed39 s.vm) {own : String} {idx : Nat} {y : MethodName} {yb : ByteArray} {yml : Nat} {yrt : Option FieldType} {rm : Room} {as : Array Value} {Qc : Option Value → Heap → List Loc → Prop} (argsL : List Value) (has : argsL.toArray = as) (hown : s.vm.findClass own = some m.cls) (w1 : (Jvm.Cond.methodLink own idx y).before a0 Z = true) (w2 : (Jvm.Cond.static y).before a0 Z = true) (w3 : (Jvm.Cond.initialized y.cls).before a0 Z = true) (w4 : (Jvm.Cond.code y yb yml yrt).before a0 Z = true) (hy : y.cls ≠ "java/lang/invoke/MethodHandle" ∧ y.cls ≠ "java/lang/invoke/VarHandle") (hd : decode bs pc = .ok (.invokestatic idx, 3)) (hM : Met1 l Z y yb yml yrt rm as h Qc) (eT : T.heap = h) {ps : List FieldType} {pr : Option FieldType} (hpd : parseMethodDescriptor y.desc = some ⟨ps, pr⟩) (hlen : argsL.length = ps.length) (hml : Ls.size = c.maxLocals) (hf : rm.frames + 1 ≤ R.frames) (W : Nat) (hW : (st.map fun v => v.category).sum = W) (hl : W + (yml + 11) + rm.locals ≤ R.locals) (hcl : cells + rm.cells ≤ R.cells) (hsl : slots + rm.slots ≤ R.slots) (pc' : Nat) (hp : pc + 3 = pc') (k : ∀ (T' : State) (L : List Loc) (v : Option Value), Stand p l e R s m args below meth c T' (locs ++ L) (cells + rm.cells) (slots + rm.slots) → Qc v T'.heap L → Go p e below G T' (mkF m pc' Ls (v.toList ++ st))) : Go p e below G T (mkF m pc Ls (argsL.reverse ++ st)) := by
  subst has
  subst hp
  obtain ⟨v, vm₁, ⟨T1, L1, k1, n1⟩, -, X1, ⟨Lc, hQ, l1, y1, z1⟩, st1⟩ := Jvm.LawKit.callS X hx (y := y) hown (mvT hZ w1) (mvT hZ w2) (mvT hZ w3) (mvT hZ w4) hy (backOf (W := W) (hM []) hZ w4 w3 hf hl) (g := mkF m pc Ls (argsL.reverse ++ st)) rfl hml (argsL := argsL) (rest := st) (lenOf hpd hlen) rfl (by show 2 * 0 + _ ≤ _; omega) (hb hby hd) (fun _ _ => ⟨rfl, eT, hcl, hsl⟩)
  dsimp only [Pt.U, Pt.locs, Pt.cells, Pt.slots] at X1 l1 y1 z1 st1 hQ
  subst l1 y1 z1
  exact Go.by (fun t q => st1 t q) (k T1 Lc v X1 hQ)
theorem own_callC (X : Stand p l e R s m args below meth c T locs cells slots) (hx : p.tables.exec = Jvm.exec) (hby : c.code = bs) (hZ : Z.Warmed39 s.vm) {own : String} {idx : Nat} {y : MethodName} {yb : ByteArray} {yml : Nat} {rm : Room} {as : Array Value} {Qc : Option Value → Heap → List Loc → Prop} {a : Addr} (argsL : List Value) (has : (.ref a :: argsL).toArray = as) (hy1 : y.name = "<init>") (hown : s.vm.findClass own = some m.cls) (w1 : (Jvm.Cond.methodLink own idx y).before a0 Z = true) (w2 : (Jvm.Cond.instanceMethod y).before a0 Z = true) (w3 : (Jvm.Cond.initialized y.cls).before a0 Z = true) (w4 : (Jvm.Cond.code y yb yml none).before a0 Z = true) (hy : y.cls ≠ "java/lang/invoke/MethodHandle" ∧ y.cls ≠ "java/lang/invoke/VarHandle") (hd : decode bs pc = .ok (.invokespecial idx, 3)) (hM : Met1 l Z y yb yml none rm as h Qc) (eT : T.heap = h) {ps : List FieldType} {pr : Option FieldType} (hpd : parseMethodDescriptor y.desc = some ⟨ps, pr⟩) (hlen : argsL.length = ps.length) (hml : Ls.size = c.maxLocals) (hf : rm.frames + 1 ≤ R.frames) (W : Nat) (hW : (st.map fun v => v.category).sum = W) (hl : W + (yml + 11) + rm.locals ≤ R.locals) (hcl : cells + rm.cells ≤ R.cells) (hsl : slots + rm.slots ≤ R.slots) (pc' : Nat) (hp : pc + 3 = pc') (k : ∀ (T' : State) (L : List Loc) (v : Option Value), Stand p l e R s m args below meth c T' (locs ++ L) (cells + rm.cells) (slots + rm.slots) → Qc v T'.heap L → Go p e below G T' (mkF m pc' Ls (v.toList ++ st))) : Go p e below G T (mkF m pc Ls (argsL.reverse ++ .ref a :: st)) := by
  subst has
  subst hp
  obtain ⟨v, vm₁, ⟨T1, L1, k1, n1⟩, -, X1, ⟨Lc, hQ, l1, y1, z1⟩, st1⟩ := X.specialBack hx (y := y) hy1 hown (mvT hZ w1) (mvT hZ w2) (mvT hZ w4) hy (backOf (W := W) (hM []) hZ w4 w3 hf hl) (g := mkF m pc Ls (argsL.reverse ++ .ref a :: st)) rfl hml (Steps.refl _) (a := a) (argsL := argsL) (rest := st) (lenOf hpd hlen) rfl (by show 2 * 0 + _ ≤ _; omega) (hb hby hd) (fun _ _ => ⟨rfl, eT, hcl, hsl⟩)
  dsimp only [Pt.U, Pt.locs, Pt.cells, Pt.slots] at X1 l1 y1 z1 st1 hQ
  subst l1 y1 z1
  exact Go.by (fun t q => st1.trans q) (k T1 Lc v X1 hQ)
theorem own_callV (X : Stand p l e R s m args below meth c T locs cells slots) (hx : p.tables.exec = Jvm.exec) (hby : c.code = bs) (hZ : Z.Warmed39 s.vm) {own : String} {idx : Nat} {y : MethodName} {yb : ByteArray} {yml : Nat} {yrt : Option FieldType} {rm : Room} {as : Array Value} {Qc : Option Value → Heap → List Loc → Prop} {a : Addr} {C : String} (argsL : List Value) (has : (.ref a :: argsL).toArray = as) (hown : s.vm.findClass own = some m.cls) (w1 : (Jvm.Cond.methodLink own idx y).before a0 Z = true) (w5 : (Jvm.Cond.declares y).before a0 Z = true) (w6 : (Jvm.Cond.selects C y y).before a0 Z = true) (w2 : (Jvm.Cond.instanceMethod y).before a0 Z = true) (w3 : (Jvm.Cond.initialized y.cls).before a0 Z = true) (w4 : (Jvm.Cond.code y yb yml yrt).before a0 Z = true) (E : Exa Z h a C) (hy : y.cls ≠ "java/lang/invoke/MethodHandle" ∧ y.cls ≠ "java/lang/invoke/VarHandle") (hd : decode bs pc = .ok (.invokevirtual idx, 3)) (hM : Met1 l Z y yb yml yrt rm as h Qc) (eT : T.heap = h) {ps : List FieldType} {pr : Option FieldType} (hpd : parseMethodDescriptor y.desc = some ⟨ps, pr⟩) (hlen : argsL.length = ps.length) (hml : Ls.size = c.maxLocals) (hf : rm.frames + 1 ≤ R.frames) (W : Nat) (hW : (st.map fun v => v.category).sum = W) (hl : W + (yml + 11) + rm.locals ≤ R.locals) (hcl : cells + rm.cells ≤ R.cells) (hsl : slots + rm.slots ≤ R.slots) (pc' : Nat) (hp : pc + 3 = pc') (k : ∀ (T' : State) (L : List Loc) (v : Option Value), Stand p l e R s m args below meth c T' (locs ++ L) (cells + rm.cells) (slots + rm.slots) → Qc v T'.heap L → Go p e below G T' (mkF m pc' Ls (v.toList ++ st))) : Go p e below G T (mkF m pc Ls (argsL.reverse ++ .ref a :: st)) := by
  subst has
  obtain ⟨cq, kq, qa, qb, qc⟩ := isOf hZ eT E
  subst hp
  obtain ⟨v, vm₁, ⟨T1, L1, k1, n1⟩, -, X1, ⟨Lc, hQ, l1, y1, z1⟩, st1⟩ := X.virtualBack hx (y := y) (z := y) hown (mvT hZ w1) (mvT hZ w5) (notFace_of_selects (args := #[]) (mvT hZ w6)) (mvT hZ w6) (mvT hZ w2) hy (backOf (W := W) (hM []) hZ w4 w3 hf hl) qa qc (g := mkF m pc Ls (argsL.reverse ++ .ref a :: st)) rfl hml (Steps.refl _) (argsL := argsL) (rest := st) (lenOf hpd hlen) rfl (by show 2 * 0 + _ ≤ _; omega) (hb hby hd) (fun _ _ => ⟨rfl, eT, hcl, hsl⟩)
  dsimp only [Pt.U, Pt.locs, Pt.cells, Pt.slots] at X1 l1 y1 z1 st1 hQ
  subst l1 y1 z1
  exact Go.by (fun t q => st1.trans q) (k T1 Lc v X1 hQ)
theorem own_getF (X : Stand p l e R s m args below meth c T locs cells slots) (hx : p.tables.exec = Jvm.exec) (hby : c.code = bs) (hZ : Z.Warmed39 s.vm) {own R0 O n d host : String} {idx : Nat} {a : Addr} {v : Value} (hown : s.vm.findClass own = some m.cls) (w : (Jvm.Cond.fieldLink own idx R0 n d).before a0 Z = true ∨ (Jvm.Cond.fieldLinkNest own idx R0 n d host).before a0 Z = true) (via : Via Z R0 O n d) (eT : T.heap = h) (F : Fld Z h a O n d v) (hd : decode bs pc = .ok (.getfield idx, 3)) (pc' : Nat) (hp : pc + 3 = pc') (k : ∀ T', Stand p l e R s m args below meth c T' locs cells slots → T'.heap = h → Go p e below G T' (mkF m pc' Ls (v :: st))) : Go p e below G T (mkF m pc Ls (.ref a :: st)) := by
  subst hp
  obtain ⟨T1, X1, e1, st1⟩ := getF X hx hZ hown w via eT F (g := mkF m pc Ls (.ref a :: st)) rfl rfl (hb hby hd)
  exact Go.by (fun t q => st1 t q) (k T1 X1 e1)
theorem own_putF (X : Stand p l e R s m args below meth c T locs cells slots) (hx : p.tables.exec = Jvm.exec) (hby : c.code = bs) (hZ : Z.Warmed39 s.vm) {own R0 O n d host C : String} {idx kk : Nat} {a : Addr} {v old : Value} {ty : FieldType} (hown : s.vm.findClass own = some m.cls) (w : (Jvm.Cond.fieldLink own idx R0 n d).before a0 Z = true ∨ (Jvm.Cond.fieldLinkNest own idx R0 n d host).before a0 Z = true) (via : Via Z R0 O n d) (eT : T.heap = h) (F : Fld Z h a O n d old) (E : Exa Z h a C) (lw : (Jvm.Cond.lays C O n d).before a0 Z = true ∨ ((Jvm.Cond.laysFinal C O n d).before a0 Z = true ∧ own = O ∧ meth.name = "<init>")) (wi : (Jvm.Cond.instantiable C kk).before a0 Z = true) (hty : parseFieldDescriptor d = some ty) (hn : narrow ty v = v) (hf : fits ty v = true) (hd : decode bs pc = .ok (.putfield idx, 3)) (pc' : Nat) (hp : pc + 3 = pc') (k : ∀ T' h', Stand p l e R s m args below meth c T' (locs ++ [⟨a, Jvm.RoadKit.slotOf Z O n d⟩]) cells slots → T'.heap = h' → Wr h h' a (Jvm.RoadKit.slotOf Z O n d) v → Go p e below G T' (mkF m pc' Ls st)) : Go p e below G T (mkF m pc Ls (v :: .ref a :: st)) := by
  subst hp
  obtain ⟨T1, h1, X1, e1, W1, st1⟩ := putF X hx hZ hown w via eT F E lw wi hty hn hf (g := mkF m pc Ls (v :: .ref a :: st)) rfl rfl (hb hby hd)
  exact Go.by (fun t q => st1 t q) (k T1 h1 X1 e1 W1)
theorem own_new (X : Stand p l e R s m args below meth c T locs cells slots) (hx : p.tables.exec = Jvm.exec) (hby : c.code = bs) (hZ : Z.Warmed39 s.vm) {own C : String} {idx n : Nat} (hown : s.vm.findClass own = some m.cls) (w : (Jvm.Cond.classLink own idx C).before a0 Z = true) (wi : (Jvm.Cond.instantiable C n).before a0 Z = true) (wz : (Jvm.Cond.initialized C).before a0 Z = true) (eT : T.heap = h) (hd : decode bs pc = .ok (.new idx, 3)) (hcl : cells + 1 ≤ R.cells) (hsl : slots + n ≤ R.slots) (pc' : Nat) (hp : pc + 3 = pc') (k : ∀ T' h' (b : Addr), b = h.size → Stand p l e R s m args below meth c T' locs (cells + 1) (slots + n) → T'.heap = h' → Ext h h' → Exa Z h' b C → (∀ {O nm d : String} {ty : FieldType}, Laid Z a0 C O nm d → parseFieldDescriptor d = some ty → Fld Z h' b O nm d (defaultValue ty)) → Go p e below G T' (mkF m pc' Ls (.ref b :: st))) : Go p e below G T (mkF m pc Ls st) := by
  subst hp
  obtain ⟨T1, h1, X1, e1, E1, A1, D1, -, st1⟩ := newO X hx hZ hown w wi wz eT (g := mkF m pc Ls st) rfl (hb hby hd) hcl hsl
  exact Go.by (fun t q => st1 t q) (k T1 h1 _ rfl X1 e1 E1 A1 D1)
theorem own_initO (X : Stand p l e R s m args below meth c T locs cells slots) (hx : p.tables.exec = Jvm.exec) (hby : c.code = bs) (hZ : Z.Warmed39 s.vm) {own : String} {idx : Nat} {a : Addr} (hown : s.vm.findClass own = some m.cls) (w1 : (Jvm.Cond.methodLink own idx Lib.objectInit).before a0 Z = true) (w2 : (Jvm.Cond.instanceMethod Lib.objectInit).before a0 Z = true) (w3 : (Jvm.Cond.code Lib.objectInit ⟨#[0xb1]⟩ 1 none).before a0 Z = true) (eT : T.heap = h) (hml : Ls.size = c.maxLocals) (hd : decode bs pc = .ok (.invokespecial idx, 3)) (hf : 1 ≤ R.frames) (W : Nat) (hW : (st.map fun v => v.category).sum = W) (hl : W + 12 ≤ R.locals) (pc' : Nat) (hp : pc + 3 = pc') (k : ∀ T', Stand p l e R s m args below meth c T' locs cells slots → T'.heap = h → Go p e below G T' (mkF m pc' Ls st)) : Go p e below G T (mkF m pc Ls (.ref a :: st)) := by
  subst hp
  obtain ⟨T1, X1, e1, st1⟩ := initO X hx hZ hown w1 w2 w3 eT (g := mkF m pc Ls (.ref a :: st)) rfl hml rfl (hb hby hd) hf (W := W) (by show 2 * 0 + _ ≤ _; omega) hl
  exact Go.by (fun t q => st1 t q) (k T1 X1 e1)
theorem own_putFN (X : Stand p l e R s m args below meth c T locs cells slots) (hx : p.tables.exec = Jvm.exec) (hby : c.code = bs) (hZ : Z.Warmed39 s.vm) {own R0 O n d C : String} {idx kk : Nat} {a : Addr} {v v' old : Value} {ty : FieldType} (hown : s.vm.findClass own = some m.cls) (w : (Jvm.Cond.fieldLink own idx R0 n d).before a0 Z = true) (via : Via Z R0 O n d) (eT : T.heap = h) (F : Fld Z h a O n d old) (E : Exa Z h a C) (lw : (Jvm.Cond.lays C O n d).before a0 Z = true ∨ ((Jvm.Cond.laysFinal C O n d).before a0 Z = true ∧ own = O ∧ meth.name = "<init>")) (wi : (Jvm.Cond.instantiable C kk).before a0 Z = true) (hty : parseFieldDescriptor d = some ty) (hn : narrow ty v = v') (hf : fits ty v' = true) (hd : decode bs pc = .ok (.putfield idx, 3)) (pc' : Nat) (hp : pc + 3 = pc') (k : ∀ T' h', Stand p l e R s m args below meth c T' (locs ++ [⟨a, Jvm.RoadKit.slotOf Z O n d⟩]) cells slots → T'.heap = h' → Wr h h' a (Jvm.RoadKit.slotOf Z O n d) v' → Go p e below G T' (mkF m pc' Ls st)) : Go p e below G T (mkF m pc Ls (v :: .ref a :: st)) := by
  subst hp
  obtain ⟨T1, h1, X1, e1, W1, st1⟩ := putFN X hx hZ hown w via eT F E lw wi hty hn hf (g := mkF m pc Ls (v :: .ref a :: st)) rfl rfl (hb hby hd)
  exact Go.by (fun t q => st1 t q) (k T1 h1 X1 e1 W1)
theorem own_getS (X : Stand p l e R s m args below meth c T locs cells slots) (hx : p.tables.exec = Jvm.exec) (hby : c.code = bs) (hZ : Z.Warmed39 s.vm) {own R0 O n d host : String} {idx : Nat} {v : Value} (hown : s.vm.findClass own = some m.cls) (w : (Jvm.Cond.fieldLink own idx R0 n d).before a0 Z = true ∨ (Jvm.Cond.fieldLinkNest own idx R0 n d host).before a0 Z = true) (via : Via Z R0 O n d) (eT : T.heap = h) (F : Sta Z h O n d v) (hd : decode bs pc = .ok (.getstatic idx, 3)) (pc' : Nat) (hp : pc + 3 = pc') (k : ∀ T', Stand p l e R s m args below meth c T' locs cells slots → T'.heap = h → Go p e below G T' (mkF m pc' Ls (v :: st))) : Go p e below G T (mkF m pc Ls st) := by
  subst hp
  obtain ⟨T1, X1, e1, st1⟩ := getS2 X hx hZ hown w via eT F (g := mkF m pc Ls st) rfl (hb hby hd)
  exact Go.by (fun t q => st1 t q) (k T1 X1 e1)
/-- an array of n places that hold what f says -/
def Afn (Z : State) (h : Heap) (a : Addr) (ty : FieldType) (n : Nat) (f : Nat → Value) : Prop := ∃ cl : Cell, Arr Z h a cl ty ∧ cl.slots.size = n ∧ ∀ i, i < n → cl.slots[i]? = some (f i) ∧ fits ty (f i) = true
def upd (f : Nat → Value) (i : Nat) (v : Value) : Nat → Value := fun j => if j = i then v else f j
theorem Afn.lt {a : Addr} {ty : FieldType} {n : Nat} {f : Nat → Value} (F : Afn Z h a ty n f) : a < h.size := by obtain ⟨cl, A, -⟩ := F; exact A.lt
theorem Afn.ext {h' : Heap} {a : Addr} {ty : FieldType} {n : Nat} {f : Nat → Value} (F : Afn Z h a ty n f) (E : Ext h h') : Afn Z h' a ty n f := by obtain ⟨cl, A, r⟩ := F; exact ⟨cl, A.ext E, r⟩
theorem Afn.other {h' : Heap} {a b : Addr} {sl : Nat} {v : Value} {ty : FieldType} {n : Nat} {f : Nat → Value} (F : Afn Z h b ty n f) (W : Wr h h' a sl v) (q : b ≠ a) : Afn Z h' b ty n f := by obtain ⟨cl, A, r⟩ := F; exact ⟨cl, A.other W q, r⟩
theorem Afn.keep {h' : Heap} {a : Addr} {ws : List Addr} {ty : FieldType} {n : Nat} {f : Nat → Value} (F : Afn Z h a ty n f) (K : Keep h h' ws) (q : a ∉ ws) : Afn Z h' a ty n f := by obtain ⟨cl, A, r⟩ := F; exact ⟨cl, ⟨K.2.1 a cl A.1 q, A.2⟩, r⟩
theorem Afn.to {a : Addr} {ty : FieldType} {n : Nat} {f f' : Nat → Value} (F : Afn Z h a ty n f) (q : ∀ i, i < n → f i = f' i) : Afn Z h a ty n f' := by obtain ⟨cl, A, S, H⟩ := F; exact ⟨cl, A, S, fun i hi => q i hi ▸ H i hi⟩
theorem Afn.new {a : Addr} {k : ClassId} {ty : FieldType} {z : Int32} {n : Nat} (A : Arr Z h a (newA k ty z) ty) (q : z.toNatClampNeg = n) : Afn Z h a ty n (fun _ => defaultValue ty) := by
  refine ⟨_, A, by rw [sz_new]; exact q, fun i hi => ⟨?_, by cases ty <;> rfl⟩⟩
  subst q
  show (Array.replicate z.toNatClampNeg (defaultValue ty))[i]? = _
  rw [Array.getElem?_replicate, if_pos hi]
theorem Afn.set {h' : Heap} {a : Addr} {ty : FieldType} {n i : Nat} {v : Value} {f : Nat → Value} (F : Afn Z h a ty n f) (W : Wr h h' a i v) (hi : i < n) (hv : fits ty v = true) : Afn Z h' a ty n (upd f i v) := by
  obtain ⟨cl, A, S, H⟩ := F
  refine ⟨cl.setSlot i v, A.same W, by rw [sz_set]; exact S, fun j hj => ?_⟩
  unfold upd
  by_cases q : j = i
  · subst q
    rw [if_pos rfl]
    refine ⟨?_, hv⟩
    show (cl.slots.setIfInBounds j v)[j]? = some v
    rw [Array.getElem?_setIfInBounds_self_of_lt (by rw [S]; exact hj)]
  · rw [if_neg q]
    refine ⟨?_, (H j hj).2⟩
    rw [← (H j hj).1]
    exact Array.getElem?_setIfInBounds_ne (Ne.symm q)
/-- an array of ints (bytes, chars, shorts): n places that hold what g says -/
def Afi (Z : State) (h : Heap) (a : Addr) (ty : FieldType) (n : Nat) (g : Nat → Int32) : Prop := Afn Z h a ty n (fun i => .int (g i))
def updI (g : Nat → Int32) (i : Nat) (v : Int32) : Nat → Int32 := fun j => if j = i then v else g j
theorem Afi.lt {a : Addr} {ty : FieldType} {n : Nat} {g : Nat → Int32} (F : Afi Z h a ty n g) : a < h.size := Afn.lt F
theorem Afi.ext {h' : Heap} {a : Addr} {ty : FieldType} {n : Nat} {g : Nat → Int32} (F : Afi Z h a ty n g) (E : Ext h h') : Afi Z h' a ty n g := Afn.ext F E
theorem Afi.other {h' : Heap} {a b : Addr} {sl : Nat} {v : Value} {ty : FieldType} {n : Nat} {g : Nat → Int32} (F : Afi Z h b ty n g) (W : Wr h h' a sl v) (q : b ≠ a) : Afi Z h' b ty n g := Afn.other F W q
theorem Afi.keep {h' : Heap} {a : Addr} {ws : List Addr} {ty : FieldType} {n : Nat} {g : Nat → Int32} (F : Afi Z h a ty n g) (K : Keep h h' ws) (q : a ∉ ws) : Afi Z h' a ty n g := Afn.keep F K q
theorem Afi.to {a : Addr} {ty : FieldType} {n : Nat} {g g' : Nat → Int32} (F : Afi Z h a ty n g) (q : ∀ i, i < n → g i = g' i) : Afi Z h a ty n g' := Afn.to F fun i hi => congrArg Value.int (q i hi)
theorem Afi.set {h' : Heap} {a : Addr} {ty : FieldType} {n i : Nat} {v : Int32} {g : Nat → Int32} (F : Afi Z h a ty n g) (W : Wr h h' a i (.int v)) (hi : i < n) (hv : fits ty (.int v) = true) : Afi Z h' a ty n (updI g i v) :=
  (Afn.set F W hi hv).to fun j _ => by
    unfold upd updI
    by_cases q : j = i
    · rw [if_pos q, if_pos q]
    · rw [if_neg q, if_neg q]
theorem own_baload (X : Stand p l e R s m args below meth c T locs cells slots) (hx : p.tables.exec = Jvm.exec) (hby : c.code = bs) (hZ : Z.Warmed39 s.vm) {a : Addr} {j : Int32} {n : Nat} {g : Nat → Int32} (v : Int32) (eT : T.heap = h) (F : Afi Z h a .byte n g) (hj : ¬ (j < 0 ∨ n ≤ j.toNatClampNeg)) (hv : g j.toNatClampNeg = v) (hd : decode bs pc = .ok (.baload, 1)) (pc' : Nat) (hp : pc + 1 = pc') (k : Go p e below G T (mkF m pc' Ls (.int v :: st))) : Go p e below G T (mkF m pc Ls (.int j :: .ref a :: st)) := by
  subst hp
  subst hv
  obtain ⟨cl, A, S, H⟩ := F
  subst S
  exact Go.by (fun t q => X.baloadBytes hx (j := j) (v := .int (g j.toNatClampNeg)) (by rw [eT]; exact A.1) (State.isArrayOf_alike hZ.alike A.2.1) A.2.2 hj (H _ (Nat.lt_of_not_le fun q => hj (Or.inr q))).1 (g := mkF m pc Ls (.int j :: .ref a :: st)) rfl rfl (hb hby hd) t q) k
theorem own_caload (X : Stand p l e R s m args below meth c T locs cells slots) (hx : p.tables.exec = Jvm.exec) (hby : c.code = bs) (hZ : Z.Warmed39 s.vm) {a : Addr} {j : Int32} {n : Nat} {g : Nat → Int32} (v : Int32) (eT : T.heap = h) (F : Afi Z h a .char n g) (hj : ¬ (j < 0 ∨ n ≤ j.toNatClampNeg)) (hv : g j.toNatClampNeg = v) (hd : decode bs pc = .ok (.caload, 1)) (pc' : Nat) (hp : pc + 1 = pc') (k : Go p e below G T (mkF m pc' Ls (.int v :: st))) : Go p e below G T (mkF m pc Ls (.int j :: .ref a :: st)) := by
  subst hp
  subst hv
  obtain ⟨cl, A, S, H⟩ := F
  subst S
  exact Go.by (fun t q => X.caload hx (j := j) (v := .int (g j.toNatClampNeg)) (by rw [eT]; exact A.1) (State.isArrayOf_alike hZ.alike A.2.1) A.2.2 hj (H _ (Nat.lt_of_not_le fun q => hj (Or.inr q))).1 (g := mkF m pc Ls (.int j :: .ref a :: st)) rfl rfl (hb hby hd) t q) k
theorem own_arraylength (X : Stand p l e R s m args below meth c T locs cells slots) (hx : p.tables.exec = Jvm.exec) (hby : c.code = bs) (hZ : Z.Warmed39 s.vm) {a : Addr} {ty : FieldType} {n : Nat} {f : Nat → Value} (z : Int32) (eT : T.heap = h) (F : Afn Z h a ty n f) (hz : n.toInt32 = z) (hd : decode bs pc = .ok (.arraylength, 1)) (pc' : Nat) (hp : pc + 1 = pc') (k : Go p e below G T (mkF m pc' Ls (.int z :: st))) : Go p e below G T (mkF m pc Ls (.ref a :: st)) := by
  subst hp
  subst hz
  obtain ⟨cl, A, S, H⟩ := F
  subst S
  exact Go.by (fun t q => X.arraylength hx (by rw [eT]; exact A.1) (State.isArrayOf_alike hZ.alike A.2.1) (g := mkF m pc Ls (.ref a :: st)) rfl rfl (hb hby hd) t q) k
theorem own_bastore (X : Stand p l e R s m args below meth c T locs cells slots) (hx : p.tables.exec = Jvm.exec) (hby : c.code = bs) (hZ : Z.Warmed39 s.vm) {a : Addr} {j x : Int32} {n : Nat} {g : Nat → Int32} (eT : T.heap = h) (F : Afi Z h a .byte n g) (hj : ¬ (j < 0 ∨ n ≤ j.toNatClampNeg)) (hd : decode bs pc = .ok (.bastore, 1)) (pc' : Nat) (hp : pc + 1 = pc') (k : ∀ T' h', Stand p l e R s m args below meth c T' (locs ++ [⟨a, j.toNatClampNeg⟩]) cells slots → T'.heap = h' → Wr h h' a j.toNatClampNeg (.int (nar .byte x)) → Afi Z h' a .byte n (updI g j.toNatClampNeg (nar .byte x)) → Go p e below G T' (mkF m pc' Ls st)) : Go p e below G T (mkF m pc Ls (.int x :: .int j :: .ref a :: st)) := by
  subst hp
  have F0 := F
  obtain ⟨cl, A, S, H⟩ := F
  obtain ⟨T1, h1, X1, e1, W1, st1⟩ := stB X hx hZ eT A (j := j) (x := x) (by rw [S]; exact hj) (g := mkF m pc Ls (.int x :: .int j :: .ref a :: st)) rfl rfl (hb hby hd)
  exact Go.by (fun t q => st1 t q) (k T1 h1 X1 e1 W1 (F0.set W1 (Nat.lt_of_not_le fun q => hj (Or.inr q)) (fits_nar_byte x)))
theorem own_castore (X : Stand p l e R s m args below meth c T locs cells slots) (hx : p.tables.exec = Jvm.exec) (hby : c.code = bs) (hZ : Z.Warmed39 s.vm) {a : Addr} {j x : Int32} {n : Nat} {g : Nat → Int32} (eT : T.heap = h) (F : Afi Z h a .char n g) (hj : ¬ (j < 0 ∨ n ≤ j.toNatClampNeg)) (hd : decode bs pc = .ok (.castore, 1)) (pc' : Nat) (hp : pc + 1 = pc') (k : ∀ T' h', Stand p l e R s m args below meth c T' (locs ++ [⟨a, j.toNatClampNeg⟩]) cells slots → T'.heap = h' → Wr h h' a j.toNatClampNeg (.int (nar .char x)) → Afi Z h' a .char n (updI g j.toNatClampNeg (nar .char x)) → Go p e below G T' (mkF m pc' Ls st)) : Go p e below G T (mkF m pc Ls (.int x :: .int j :: .ref a :: st)) := by
  subst hp
  have F0 := F
  obtain ⟨cl, A, S, H⟩ := F
  obtain ⟨T1, h1, X1, e1, W1, st1⟩ := stC X hx hZ eT A (j := j) (x := x) (by rw [S]; exact hj) (g := mkF m pc Ls (.int x :: .int j :: .ref a :: st)) rfl rfl (hb hby hd)
  exact Go.by (fun t q => st1 t q) (k T1 h1 X1 e1 W1 (F0.set W1 (Nat.lt_of_not_le fun q => hj (Or.inr q)) (fits_nar_char x)))
theorem own_newarray (X : Stand p l e R s m args below meth c T locs cells slots) (hx : p.tables.exec = Jvm.exec) (hby : c.code = bs) (hZ : Z.Warmed39 s.vm) {aty : ArrayType} {z : Int32} {n cap : Nat} {ad : String} (w : (Jvm.Cond.arrayClass (newarray.typeOf aty)).before a0 Z = true) (eT : T.heap = h) (hd : decode bs pc = .ok (.newarray aty, 2)) (hz : ¬ z < 0) (hn : z.toNatClampNeg = n) (hcap : n ≤ cap) (hb8 : cap * 8 ≤ 536870912) (hcl : cells + 1 ≤ R.cells) (hsl : slots + cap ≤ R.slots) (had : "[" ++ (newarray.typeOf aty).toString = ad) (pc' : Nat) (hp : pc + 2 = pc') (k : ∀ T' h' (b : Addr), b = h.size → Stand p l e R s m args below meth c T' locs (cells + 1) (slots + cap) → T'.heap = h' → Ext h h' → Afn Z h' b (newarray.typeOf aty) n (fun _ => defaultValue (newarray.typeOf aty)) → Exa Z h' b ad → Go p e below G T' (mkF m pc' Ls (.ref b :: st))) : Go p e below G T (mkF m pc Ls (.int z :: st)) := by
  subst hp
  obtain ⟨T1, h1, cA, X1, e1, E1, A1, Ex1, st1⟩ := newPE X hx hZ w eT (g := mkF m pc Ls (.int z :: st)) rfl (hb hby hd) rfl hz (cap := cap) (by rw [hn]; exact hcap) hb8 hcl hsl had
  exact Go.by (fun t q => st1 t q) (k T1 h1 _ rfl X1 e1 E1 (Afn.new A1 hn) Ex1)
theorem own_ext0 {h0 : Heap} (K : Keep h0 h []) : Ext h0 h := ⟨K.1, fun a c q => K.2.1 a c q nin0⟩
/-- an array of references over the class C takes objects of C -/
def Orr (Z : State) (h : Heap) (b : Addr) (C : String) : Prop := ∃ (c : Cell) (cA : ClassId), Arr Z h b c (.object C) ∧ c.cls = cA ∧ Ovr Z cA C
theorem Orr.lt {b : Addr} {C : String} (F : Orr Z h b C) : b < h.size := by obtain ⟨c, cA, A, -⟩ := F; exact A.lt
theorem Orr.ext {h' : Heap} {b : Addr} {C : String} (F : Orr Z h b C) (E : Ext h h') : Orr Z h' b C := by obtain ⟨c, cA, A, r⟩ := F; exact ⟨c, cA, A.ext E, r⟩
theorem Orr.wr {h' : Heap} {a b : Addr} {C : String} {sl : Nat} {v : Value} (F : Orr Z h b C) (W : Wr h h' a sl v) : Orr Z h' b C := by
  obtain ⟨c, cA, A, q, O⟩ := F
  by_cases e : b = a
  · subst e; exact ⟨_, cA, A.same W, q, O⟩
  · exact ⟨c, cA, A.other W e, q, O⟩
theorem Orr.sto {b y : Addr} {C : String} (F : Orr Z h b C) (I : Ins Z h y C true) : Sto Z h b (.ref y) := by
  obtain ⟨c, cA, A, q, O⟩ := F
  exact Sto.ofV A q O I
end OwnGo

/-! ## bodies that may load String constants: the Stand is over the start with the tables of now, 'Since' says how they came to be -/
def FinW (s : State) (Q : Option Value → Heap → List Loc → Prop) (kc ks : Nat) (U' : State) (o : Outcome) : Prop :=
  ∃ v L, o = .returned v ∧ Q v U'.heap L ∧ ReturnedEndW s o U' L kc ks
def Met1W (l : Launch) (Z : State) (y : MethodName) (bytes : ByteArray) (maxL : Nat) (rt : Option FieldType) (rm : Room) (as : Array Value) (h0 : Heap) (Q : Option Value → Heap → List Loc → Prop) : Prop :=
  ∀ ws : List Jvm.Cond, MetFree l y (head1 (Jvm.Cond.code y bytes maxL rt :: ws) rm) (fun a U => a = as ∧ Z.Warmed39 U.vm ∧ U.heap = h0) (fun _ _ _ _ _ => True)
    (fun _ U o U' => ∃ v L, o = .returned v ∧ Q v U'.heap L ∧ ReturnedEndW U o U' L rm.cells rm.slots)
section OwnWide
variable {p : Program} {l : Launch} {e : Env} {R : Room} {s : State} {m : MethodId} {args : Array Value} {below : List Frame} {meth : Method} {c : Code} {T T' : State} {locs : List Loc} {cells slots : Nat} {G : State → Outcome → Prop} {Ls : Array Slot} {st : List Value} {pc : Nat} {bs : ByteArray} {Z : State} {a0 : Array Value} {h : Heap} {g g' : JFrame} {vm0 : Vm}
end OwnWide

theorem d1_0 : decode method_3_code 0 = .ok (.iload_n 0, 1) := by decide +kernel
theorem d1_1 : decode method_3_code 1 = .ok (.ldc 29, 2) := by decide +kernel
theorem d1_3 : decode method_3_code 3 = .ok (.iand, 1) := by decide +kernel
theorem d1_4 : decode method_3_code 4 = .ok (.ifCond .eq 9, 3) := by decide +kernel
theorem d1_7 : decode method_3_code 7 = .ok (.iload_n 0, 1) := by decide +kernel
theorem d1_8 : decode method_3_code 8 = .ok (.ldc 30, 2) := by decide +kernel
theorem d1_10 : decode method_3_code 10 = .ok (.iand, 1) := by decide +kernel
theorem d1_11 : decode method_3_code 11 = .ok (.i2c, 1) := by decide +kernel
theorem d1_12 : decode method_3_code 12 = .ok (.ireturn, 1) := by decide +kernel
theorem d1_13 : decode method_3_code 13 = .ok (.iload_n 0, 1) := by decide +kernel
theorem d1_14 : decode method_3_code 14 = .ok (.bipush 127, 2) := by decide +kernel
theorem d1_16 : decode method_3_code 16 = .ok (.iand, 1) := by decide +kernel
theorem d1_17 : decode method_3_code 17 = .ok (.i2c, 1) := by decide +kernel
theorem d1_18 : decode method_3_code 18 = .ok (.ireturn, 1) := by decide +kernel
theorem pn_1 : plainName "com/example/operant/operant/HeaderFieldsIsTokenPinLaw" = true := by first | (simp [plainName, overriddenIn]; done) | decide +kernel
theorem d18_0 : decode prog_3_method_6_code 0 = .ok (.iload_n 0, 1) := by decide +kernel
theorem d18_1 : decode prog_3_method_6_code 1 = .ok (.bipush 97, 2) := by decide +kernel
theorem d18_3 : decode prog_3_method_6_code 3 = .ok (.if_icmp .lt 9, 3) := by decide +kernel
theorem d18_6 : decode prog_3_method_6_code 6 = .ok (.iload_n 0, 1) := by decide +kernel
theorem d18_7 : decode prog_3_method_6_code 7 = .ok (.bipush 122, 2) := by decide +kernel
theorem d18_9 : decode prog_3_method_6_code 9 = .ok (.if_icmp .le 27, 3) := by decide +kernel
theorem d18_12 : decode prog_3_method_6_code 12 = .ok (.iload_n 0, 1) := by decide +kernel
theorem d18_13 : decode prog_3_method_6_code 13 = .ok (.bipush 65, 2) := by decide +kernel
theorem d18_15 : decode prog_3_method_6_code 15 = .ok (.if_icmp .lt 9, 3) := by decide +kernel
theorem d18_18 : decode prog_3_method_6_code 18 = .ok (.iload_n 0, 1) := by decide +kernel
theorem d18_19 : decode prog_3_method_6_code 19 = .ok (.bipush 90, 2) := by decide +kernel
theorem d18_21 : decode prog_3_method_6_code 21 = .ok (.if_icmp .le 15, 3) := by decide +kernel
theorem d18_24 : decode prog_3_method_6_code 24 = .ok (.iload_n 0, 1) := by decide +kernel
theorem d18_25 : decode prog_3_method_6_code 25 = .ok (.bipush 48, 2) := by decide +kernel
theorem d18_27 : decode prog_3_method_6_code 27 = .ok (.if_icmp .lt 13, 3) := by decide +kernel
theorem d18_30 : decode prog_3_method_6_code 30 = .ok (.iload_n 0, 1) := by decide +kernel
theorem d18_31 : decode prog_3_method_6_code 31 = .ok (.bipush 57, 2) := by decide +kernel
theorem d18_33 : decode prog_3_method_6_code 33 = .ok (.if_icmp .gt 7, 3) := by decide +kernel
theorem d18_36 : decode prog_3_method_6_code 36 = .ok (.iconst 1, 1) := by decide +kernel
theorem d18_37 : decode prog_3_method_6_code 37 = .ok (.goto 4, 3) := by decide +kernel
theorem d18_40 : decode prog_3_method_6_code 40 = .ok (.iconst 0, 1) := by decide +kernel
theorem d18_41 : decode prog_3_method_6_code 41 = .ok (.ireturn, 1) := by decide +kernel
theorem pn_18 : plainName "com/example/operant/operant/HeaderFields" = true := by first | (simp [plainName, overriddenIn]; done) | decide +kernel
theorem d22_0 : decode jdk_43_method_4_code 0 = .ok (.iload_n 0, 1) := by decide +kernel
theorem d22_1 : decode jdk_43_method_4_code 1 = .ok (.ifCond .lt 14, 3) := by decide +kernel
theorem d22_4 : decode jdk_43_method_4_code 4 = .ok (.iload_n 0, 1) := by decide +kernel
theorem d22_5 : decode jdk_43_method_4_code 5 = .ok (.sipush 255, 3) := by decide +kernel
theorem d22_8 : decode jdk_43_method_4_code 8 = .ok (.if_icmp .gt 7, 3) := by decide +kernel
theorem d22_11 : decode jdk_43_method_4_code 11 = .ok (.iconst 1, 1) := by decide +kernel
theorem d22_12 : decode jdk_43_method_4_code 12 = .ok (.goto 4, 3) := by decide +kernel
theorem d22_15 : decode jdk_43_method_4_code 15 = .ok (.iconst 0, 1) := by decide +kernel
theorem d22_16 : decode jdk_43_method_4_code 16 = .ok (.ireturn, 1) := by decide +kernel
theorem pn_22 : plainName "java/lang/StringLatin1" = true := by first | (simp [plainName, overriddenIn]; done) | decide +kernel
theorem d10_0 : decode method_4_code 0 = .ok (.iload_n 0, 1) := by decide +kernel
theorem d10_1 : decode method_4_code 1 = .ok (.bipush 48, 2) := by decide +kernel
theorem d10_3 : decode method_4_code 3 = .ok (.if_icmp .lt 11, 3) := by decide +kernel
theorem d10_6 : decode method_4_code 6 = .ok (.iload_n 0, 1) := by decide +kernel
theorem d10_7 : decode method_4_code 7 = .ok (.bipush 57, 2) := by decide +kernel
theorem d10_9 : decode method_4_code 9 = .ok (.if_icmp .gt 5, 3) := by decide +kernel
theorem d10_12 : decode method_4_code 12 = .ok (.iconst 1, 1) := by decide +kernel
theorem d10_13 : decode method_4_code 13 = .ok (.ireturn, 1) := by decide +kernel
theorem d10_14 : decode method_4_code 14 = .ok (.iload_n 0, 1) := by decide +kernel
theorem d10_15 : decode method_4_code 15 = .ok (.bipush 65, 2) := by decide +kernel
theorem d10_17 : decode method_4_code 17 = .ok (.if_icmp .lt 11, 3) := by decide +kernel
theorem d10_20 : decode method_4_code 20 = .ok (.iload_n 0, 1) := by decide +kernel
theorem d10_21 : decode method_4_code 21 = .ok (.bipush 90, 2) := by decide +kernel
theorem d10_23 : decode method_4_code 23 = .ok (.if_icmp .gt 5, 3) := by decide +kernel
theorem d10_26 : decode method_4_code 26 = .ok (.iconst 1, 1) := by decide +kernel
theorem d10_27 : decode method_4_code 27 = .ok (.ireturn, 1) := by decide +kernel
theorem d10_28 : decode method_4_code 28 = .ok (.iload_n 0, 1) := by decide +kernel
theorem d10_29 : decode method_4_code 29 = .ok (.bipush 97, 2) := by decide +kernel
theorem d10_31 : decode method_4_code 31 = .ok (.if_icmp .lt 11, 3) := by decide +kernel
theorem d10_34 : decode method_4_code 34 = .ok (.iload_n 0, 1) := by decide +kernel
theorem d10_35 : decode method_4_code 35 = .ok (.bipush 122, 2) := by decide +kernel
theorem d10_37 : decode method_4_code 37 = .ok (.if_icmp .gt 5, 3) := by decide +kernel
theorem d10_40 : decode method_4_code 40 = .ok (.iconst 1, 1) := by decide +kernel
theorem d10_41 : decode method_4_code 41 = .ok (.ireturn, 1) := by decide +kernel
theorem d10_42 : decode method_4_code 42 = .ok (.iload_n 0, 1) := by decide +kernel
theorem d10_43 : decode method_4_code 43 = .ok (.bipush 33, 2) := by decide +kernel
theorem d10_45 : decode method_4_code 45 = .ok (.if_icmp .eq 87, 3) := by decide +kernel
theorem d10_48 : decode method_4_code 48 = .ok (.iload_n 0, 1) := by decide +kernel
theorem d10_49 : decode method_4_code 49 = .ok (.bipush 35, 2) := by decide +kernel
theorem d10_51 : decode method_4_code 51 = .ok (.if_icmp .eq 81, 3) := by decide +kernel
theorem d10_54 : decode method_4_code 54 = .ok (.iload_n 0, 1) := by decide +kernel
theorem d10_55 : decode method_4_code 55 = .ok (.bipush 36, 2) := by decide +kernel
theorem d10_57 : decode method_4_code 57 = .ok (.if_icmp .eq 75, 3) := by decide +kernel
theorem d10_60 : decode method_4_code 60 = .ok (.iload_n 0, 1) := by decide +kernel
theorem d10_61 : decode method_4_code 61 = .ok (.bipush 37, 2) := by decide +kernel
theorem d10_63 : decode method_4_code 63 = .ok (.if_icmp .eq 69, 3) := by decide +kernel
theorem d10_66 : decode method_4_code 66 = .ok (.iload_n 0, 1) := by decide +kernel
theorem d10_67 : decode method_4_code 67 = .ok (.bipush 38, 2) := by decide +kernel
theorem d10_69 : decode method_4_code 69 = .ok (.if_icmp .eq 63, 3) := by decide +kernel
theorem d10_72 : decode method_4_code 72 = .ok (.iload_n 0, 1) := by decide +kernel
theorem d10_73 : decode method_4_code 73 = .ok (.bipush 39, 2) := by decide +kernel
theorem d10_75 : decode method_4_code 75 = .ok (.if_icmp .eq 57, 3) := by decide +kernel
theorem d10_78 : decode method_4_code 78 = .ok (.iload_n 0, 1) := by decide +kernel
theorem d10_79 : decode method_4_code 79 = .ok (.bipush 42, 2) := by decide +kernel
theorem d10_81 : decode method_4_code 81 = .ok (.if_icmp .eq 51, 3) := by decide +kernel
theorem d10_84 : decode method_4_code 84 = .ok (.iload_n 0, 1) := by decide +kernel
theorem d10_85 : decode method_4_code 85 = .ok (.bipush 43, 2) := by decide +kernel
theorem d10_87 : decode method_4_code 87 = .ok (.if_icmp .eq 45, 3) := by decide +kernel
theorem d10_90 : decode method_4_code 90 = .ok (.iload_n 0, 1) := by decide +kernel
theorem d10_91 : decode method_4_code 91 = .ok (.bipush 45, 2) := by decide +kernel
theorem d10_93 : decode method_4_code 93 = .ok (.if_icmp .eq 39, 3) := by decide +kernel
theorem d10_96 : decode method_4_code 96 = .ok (.iload_n 0, 1) := by decide +kernel
theorem d10_97 : decode method_4_code 97 = .ok (.bipush 46, 2) := by decide +kernel
theorem d10_99 : decode method_4_code 99 = .ok (.if_icmp .eq 33, 3) := by decide +kernel
theorem d10_102 : decode method_4_code 102 = .ok (.iload_n 0, 1) := by decide +kernel
theorem d10_103 : decode method_4_code 103 = .ok (.bipush 94, 2) := by decide +kernel
theorem d10_105 : decode method_4_code 105 = .ok (.if_icmp .eq 27, 3) := by decide +kernel
theorem d10_108 : decode method_4_code 108 = .ok (.iload_n 0, 1) := by decide +kernel
theorem d10_109 : decode method_4_code 109 = .ok (.bipush 95, 2) := by decide +kernel
theorem d10_111 : decode method_4_code 111 = .ok (.if_icmp .eq 21, 3) := by decide +kernel
theorem d10_114 : decode method_4_code 114 = .ok (.iload_n 0, 1) := by decide +kernel
theorem d10_115 : decode method_4_code 115 = .ok (.bipush 96, 2) := by decide +kernel
theorem d10_117 : decode method_4_code 117 = .ok (.if_icmp .eq 15, 3) := by decide +kernel
theorem d10_120 : decode method_4_code 120 = .ok (.iload_n 0, 1) := by decide +kernel
theorem d10_121 : decode method_4_code 121 = .ok (.bipush 124, 2) := by decide +kernel
theorem d10_123 : decode method_4_code 123 = .ok (.if_icmp .eq 9, 3) := by decide +kernel
theorem d10_126 : decode method_4_code 126 = .ok (.iload_n 0, 1) := by decide +kernel
theorem d10_127 : decode method_4_code 127 = .ok (.bipush 126, 2) := by decide +kernel
theorem d10_129 : decode method_4_code 129 = .ok (.if_icmp .ne 7, 3) := by decide +kernel
theorem d10_132 : decode method_4_code 132 = .ok (.iconst 1, 1) := by decide +kernel
theorem d10_133 : decode method_4_code 133 = .ok (.goto 4, 3) := by decide +kernel
theorem d10_136 : decode method_4_code 136 = .ok (.iconst 0, 1) := by decide +kernel
theorem d10_137 : decode method_4_code 137 = .ok (.ireturn, 1) := by decide +kernel
theorem d23_0 : decode jdk_29_method_65_code 0 = .ok (.iload_n 0, 1) := by decide +kernel
theorem d23_1 : decode jdk_29_method_65_code 1 = .ok (.iload_n 1, 1) := by decide +kernel
theorem d23_2 : decode jdk_29_method_65_code 2 = .ok (.if_icmp .lt 7, 3) := by decide +kernel
theorem d23_5 : decode jdk_29_method_65_code 5 = .ok (.iload_n 0, 1) := by decide +kernel
theorem d23_6 : decode jdk_29_method_65_code 6 = .ok (.goto 4, 3) := by decide +kernel
theorem d23_10 : decode jdk_29_method_65_code 10 = .ok (.ireturn, 1) := by decide +kernel
theorem d24_0 : decode jdk_29_method_69_code 0 = .ok (.iload_n 0, 1) := by decide +kernel
theorem d24_1 : decode jdk_29_method_69_code 1 = .ok (.iload_n 1, 1) := by decide +kernel
theorem d24_2 : decode jdk_29_method_69_code 2 = .ok (.if_icmp .gt 7, 3) := by decide +kernel
theorem d24_5 : decode jdk_29_method_69_code 5 = .ok (.iload_n 0, 1) := by decide +kernel
theorem d24_6 : decode jdk_29_method_69_code 6 = .ok (.goto 4, 3) := by decide +kernel
theorem d24_10 : decode jdk_29_method_69_code 10 = .ok (.ireturn, 1) := by decide +kernel
theorem d25_0 : decode jdk_43_method_23_code 0 = .ok (.iload_n 1, 1) := by decide +kernel
theorem d25_1 : decode jdk_43_method_23_code 1 = .ok (.i2b, 1) := by decide +kernel
theorem d25_2 : decode jdk_43_method_23_code 2 = .ok (.istore 4, 2) := by decide +kernel
theorem d25_4 : decode jdk_43_method_23_code 4 = .ok (.iload_n 2, 1) := by decide +kernel
theorem d25_5 : decode jdk_43_method_23_code 5 = .ok (.istore 5, 2) := by decide +kernel
theorem d25_7 : decode jdk_43_method_23_code 7 = .ok (.iload 5, 2) := by decide +kernel
theorem d25_9 : decode jdk_43_method_23_code 9 = .ok (.iload_n 3, 1) := by decide +kernel
theorem d25_10 : decode jdk_43_method_23_code 10 = .ok (.if_icmp .ge 21, 3) := by decide +kernel
theorem d25_13 : decode jdk_43_method_23_code 13 = .ok (.aload_n 0, 1) := by decide +kernel
theorem d25_14 : decode jdk_43_method_23_code 14 = .ok (.iload 5, 2) := by decide +kernel
theorem d25_16 : decode jdk_43_method_23_code 16 = .ok (.baload, 1) := by decide +kernel
theorem d25_17 : decode jdk_43_method_23_code 17 = .ok (.iload 4, 2) := by decide +kernel
theorem d25_19 : decode jdk_43_method_23_code 19 = .ok (.if_icmp .ne 6, 3) := by decide +kernel
theorem d25_22 : decode jdk_43_method_23_code 22 = .ok (.iload 5, 2) := by decide +kernel
theorem d25_24 : decode jdk_43_method_23_code 24 = .ok (.ireturn, 1) := by decide +kernel
theorem d25_25 : decode jdk_43_method_23_code 25 = .ok (.iinc 5 1, 3) := by decide +kernel
theorem d25_28 : decode jdk_43_method_23_code 28 = .ok (.goto (-21), 3) := by decide +kernel
theorem d25_31 : decode jdk_43_method_23_code 31 = .ok (.iconst (-1), 1) := by decide +kernel
theorem d25_32 : decode jdk_43_method_23_code 32 = .ok (.ireturn, 1) := by decide +kernel
theorem d21_0 : decode jdk_43_method_22_code 0 = .ok (.iload_n 1, 1) := by decide +kernel
theorem d21_1 : decode jdk_43_method_22_code 1 = .ok (.invokestatic 88, 3) := by decide +kernel
theorem d21_4 : decode jdk_43_method_22_code 4 = .ok (.ifCond .ne 5, 3) := by decide +kernel
theorem d21_7 : decode jdk_43_method_22_code 7 = .ok (.iconst (-1), 1) := by decide +kernel
theorem d21_8 : decode jdk_43_method_22_code 8 = .ok (.ireturn, 1) := by decide +kernel
theorem d21_9 : decode jdk_43_method_22_code 9 = .ok (.iload_n 2, 1) := by decide +kernel
theorem d21_10 : decode jdk_43_method_22_code 10 = .ok (.iconst 0, 1) := by decide +kernel
theorem d21_11 : decode jdk_43_method_22_code 11 = .ok (.invokestatic 92, 3) := by decide +kernel
theorem d21_14 : decode jdk_43_method_22_code 14 = .ok (.istore_n 2, 1) := by decide +kernel
theorem d21_15 : decode jdk_43_method_22_code 15 = .ok (.iload_n 3, 1) := by decide +kernel
theorem d21_16 : decode jdk_43_method_22_code 16 = .ok (.aload_n 0, 1) := by decide +kernel
theorem d21_17 : decode jdk_43_method_22_code 17 = .ok (.arraylength, 1) := by decide +kernel
theorem d21_18 : decode jdk_43_method_22_code 18 = .ok (.invokestatic 38, 3) := by decide +kernel
theorem d21_21 : decode jdk_43_method_22_code 21 = .ok (.istore_n 3, 1) := by decide +kernel
theorem d21_22 : decode jdk_43_method_22_code 22 = .ok (.iload_n 2, 1) := by decide +kernel
theorem d21_23 : decode jdk_43_method_22_code 23 = .ok (.iload_n 3, 1) := by decide +kernel
theorem d21_24 : decode jdk_43_method_22_code 24 = .ok (.if_icmp .lt 5, 3) := by decide +kernel
theorem d21_29 : decode jdk_43_method_22_code 29 = .ok (.aload_n 0, 1) := by decide +kernel
theorem d21_30 : decode jdk_43_method_22_code 30 = .ok (.iload_n 1, 1) := by decide +kernel
theorem d21_31 : decode jdk_43_method_22_code 31 = .ok (.iload_n 2, 1) := by decide +kernel
theorem d21_32 : decode jdk_43_method_22_code 32 = .ok (.iload_n 3, 1) := by decide +kernel
theorem d21_33 : decode jdk_43_method_22_code 33 = .ok (.invokestatic 95, 3) := by decide +kernel
theorem d21_36 : decode jdk_43_method_22_code 36 = .ok (.ireturn, 1) := by decide +kernel
theorem pd_7 : parseMethodDescriptor "(I)Z" = some ⟨[.int], some .boolean⟩ := by decide +kernel
theorem pd_9 : parseMethodDescriptor "(II)I" = some ⟨[.int, .int], some .int⟩ := by decide +kernel
theorem pd_18 : parseMethodDescriptor "([BIII)I" = some ⟨[(.array .byte), .int, .int, .int], some .int⟩ := by decide +kernel
theorem d12_0 : decode jdk_42_method_152_code 0 = .ok (.getstatic 38, 3) := by decide +kernel
theorem d12_3 : decode jdk_42_method_152_code 3 = .ok (.ifCond .eq 10, 3) := by decide +kernel
theorem d12_6 : decode jdk_42_method_152_code 6 = .ok (.aload_n 0, 1) := by decide +kernel
theorem d12_7 : decode jdk_42_method_152_code 7 = .ok (.getfield 15, 3) := by decide +kernel
theorem d12_10 : decode jdk_42_method_152_code 10 = .ok (.goto 4, 3) := by decide +kernel
theorem d12_14 : decode jdk_42_method_152_code 14 = .ok (.ireturn, 1) := by decide +kernel
theorem pn_12 : plainName "java/lang/String" = true := by first | (simp [plainName, overriddenIn]; done) | decide +kernel
theorem d14_0 : decode jdk_42_method_154_code 0 = .ok (.getstatic 38, 3) := by decide +kernel
theorem d14_3 : decode jdk_42_method_154_code 3 = .ok (.ifCond .eq 14, 3) := by decide +kernel
theorem d14_6 : decode jdk_42_method_154_code 6 = .ok (.aload_n 0, 1) := by decide +kernel
theorem d14_7 : decode jdk_42_method_154_code 7 = .ok (.getfield 15, 3) := by decide +kernel
theorem d14_10 : decode jdk_42_method_154_code 10 = .ok (.ifCond .ne 7, 3) := by decide +kernel
theorem d14_13 : decode jdk_42_method_154_code 13 = .ok (.iconst 1, 1) := by decide +kernel
theorem d14_14 : decode jdk_42_method_154_code 14 = .ok (.goto 4, 3) := by decide +kernel
theorem d14_18 : decode jdk_42_method_154_code 18 = .ok (.ireturn, 1) := by decide +kernel
theorem d14_17 : decode jdk_42_method_154_code 17 = .ok (.iconst 0, 1) := by decide +kernel
theorem d11_0 : decode jdk_42_method_54_code 0 = .ok (.aload_n 0, 1) := by decide +kernel
theorem d11_1 : decode jdk_42_method_54_code 1 = .ok (.getfield 9, 3) := by decide +kernel
theorem d11_4 : decode jdk_42_method_54_code 4 = .ok (.arraylength, 1) := by decide +kernel
theorem d11_5 : decode jdk_42_method_54_code 5 = .ok (.aload_n 0, 1) := by decide +kernel
theorem d11_6 : decode jdk_42_method_54_code 6 = .ok (.invokevirtual 335, 3) := by decide +kernel
theorem d11_9 : decode jdk_42_method_54_code 9 = .ok (.ishr, 1) := by decide +kernel
theorem d11_10 : decode jdk_42_method_54_code 10 = .ok (.ireturn, 1) := by decide +kernel
theorem pd_0 : parseMethodDescriptor "()B" = some ⟨[], some .byte⟩ := by decide +kernel
theorem d6_0 : decode jdk_42_method_55_code 0 = .ok (.aload_n 0, 1) := by decide +kernel
theorem d6_1 : decode jdk_42_method_55_code 1 = .ok (.getfield 9, 3) := by decide +kernel
theorem d6_4 : decode jdk_42_method_55_code 4 = .ok (.arraylength, 1) := by decide +kernel
theorem d6_5 : decode jdk_42_method_55_code 5 = .ok (.ifCond .ne 7, 3) := by decide +kernel
theorem d6_8 : decode jdk_42_method_55_code 8 = .ok (.iconst 1, 1) := by decide +kernel
theorem d6_9 : decode jdk_42_method_55_code 9 = .ok (.goto 4, 3) := by decide +kernel
theorem d6_13 : decode jdk_42_method_55_code 13 = .ok (.ireturn, 1) := by decide +kernel
theorem d6_12 : decode jdk_42_method_55_code 12 = .ok (.iconst 0, 1) := by decide +kernel
theorem d17_0 : decode jdk_41_method_11_code 0 = .ok (.iload_n 0, 1) := by decide +kernel
theorem d17_1 : decode jdk_41_method_11_code 1 = .ok (.ifCond .lt 8, 3) := by decide +kernel
theorem d17_4 : decode jdk_41_method_11_code 4 = .ok (.iload_n 0, 1) := by decide +kernel
theorem d17_5 : decode jdk_41_method_11_code 5 = .ok (.iload_n 1, 1) := by decide +kernel
theorem d17_6 : decode jdk_41_method_11_code 6 = .ok (.if_icmp .lt 10, 3) := by decide +kernel
theorem d17_16 : decode jdk_41_method_11_code 16 = .ok (.iload_n 0, 1) := by decide +kernel
theorem d17_17 : decode jdk_41_method_11_code 17 = .ok (.ireturn, 1) := by decide +kernel
theorem pn_17 : plainName "jdk/internal/util/Preconditions" = true := by first | (simp [plainName, overriddenIn]; done) | decide +kernel
theorem d16_0 : decode jdk_42_method_155_code 0 = .ok (.iload_n 0, 1) := by decide +kernel
theorem d16_1 : decode jdk_42_method_155_code 1 = .ok (.iload_n 1, 1) := by decide +kernel
theorem d16_2 : decode jdk_42_method_155_code 2 = .ok (.getstatic 1053, 3) := by decide +kernel
theorem d16_5 : decode jdk_42_method_155_code 5 = .ok (.invokestatic 1059, 3) := by decide +kernel
theorem d16_8 : decode jdk_42_method_155_code 8 = .ok (.pop, 1) := by decide +kernel
theorem d16_9 : decode jdk_42_method_155_code 9 = .ok (.return_, 1) := by decide +kernel
theorem pd_11 : parseMethodDescriptor "(IILjava/util/function/BiFunction;)I" = some ⟨[.int, .int, (.object "java/util/function/BiFunction")], some .int⟩ := by decide +kernel
theorem d33_0 : decode jdk_52_method_6_code 0 = .ok (.aload_n 0, 1) := by decide +kernel
theorem d33_1 : decode jdk_52_method_6_code 1 = .ok (.arraylength, 1) := by decide +kernel
theorem d33_2 : decode jdk_52_method_6_code 2 = .ok (.iconst 1, 1) := by decide +kernel
theorem d33_3 : decode jdk_52_method_6_code 3 = .ok (.ishr, 1) := by decide +kernel
theorem d33_4 : decode jdk_52_method_6_code 4 = .ok (.ireturn, 1) := by decide +kernel
theorem pn_33 : plainName "java/lang/StringUTF16" = true := by first | (simp [plainName, overriddenIn]; done) | decide +kernel
theorem d15_0 : decode jdk_43_method_2_code 0 = .ok (.iload_n 1, 1) := by decide +kernel
theorem d15_1 : decode jdk_43_method_2_code 1 = .ok (.aload_n 0, 1) := by decide +kernel
theorem d15_2 : decode jdk_43_method_2_code 2 = .ok (.arraylength, 1) := by decide +kernel
theorem d15_3 : decode jdk_43_method_2_code 3 = .ok (.invokestatic 9, 3) := by decide +kernel
theorem d15_6 : decode jdk_43_method_2_code 6 = .ok (.aload_n 0, 1) := by decide +kernel
theorem d15_7 : decode jdk_43_method_2_code 7 = .ok (.iload_n 1, 1) := by decide +kernel
theorem d15_8 : decode jdk_43_method_2_code 8 = .ok (.baload, 1) := by decide +kernel
theorem d15_9 : decode jdk_43_method_2_code 9 = .ok (.sipush 255, 3) := by decide +kernel
theorem d15_12 : decode jdk_43_method_2_code 12 = .ok (.iand, 1) := by decide +kernel
theorem d15_13 : decode jdk_43_method_2_code 13 = .ok (.i2c, 1) := by decide +kernel
theorem d15_14 : decode jdk_43_method_2_code 14 = .ok (.ireturn, 1) := by decide +kernel
theorem pd_10 : parseMethodDescriptor "(II)V" = some ⟨[.int, .int], none⟩ := by decide +kernel
theorem d30_0 : decode jdk_52_method_5_code 0 = .ok (.getstatic 44, 3) := by decide +kernel
theorem d30_3 : decode jdk_52_method_5_code 3 = .ok (.ifCond .ne 25, 3) := by decide +kernel
theorem d30_28 : decode jdk_52_method_5_code 28 = .ok (.iload_n 1, 1) := by decide +kernel
theorem d30_29 : decode jdk_52_method_5_code 29 = .ok (.iconst 1, 1) := by decide +kernel
theorem d30_30 : decode jdk_52_method_5_code 30 = .ok (.ishl, 1) := by decide +kernel
theorem d30_31 : decode jdk_52_method_5_code 31 = .ok (.istore_n 1, 1) := by decide +kernel
theorem d30_32 : decode jdk_52_method_5_code 32 = .ok (.aload_n 0, 1) := by decide +kernel
theorem d30_33 : decode jdk_52_method_5_code 33 = .ok (.iload_n 1, 1) := by decide +kernel
theorem d30_34 : decode jdk_52_method_5_code 34 = .ok (.iinc 1 1, 3) := by decide +kernel
theorem d30_37 : decode jdk_52_method_5_code 37 = .ok (.baload, 1) := by decide +kernel
theorem d30_38 : decode jdk_52_method_5_code 38 = .ok (.sipush 255, 3) := by decide +kernel
theorem d30_41 : decode jdk_52_method_5_code 41 = .ok (.iand, 1) := by decide +kernel
theorem d30_42 : decode jdk_52_method_5_code 42 = .ok (.getstatic 59, 3) := by decide +kernel
theorem d30_45 : decode jdk_52_method_5_code 45 = .ok (.ishl, 1) := by decide +kernel
theorem d30_46 : decode jdk_52_method_5_code 46 = .ok (.aload_n 0, 1) := by decide +kernel
theorem d30_47 : decode jdk_52_method_5_code 47 = .ok (.iload_n 1, 1) := by decide +kernel
theorem d30_48 : decode jdk_52_method_5_code 48 = .ok (.baload, 1) := by decide +kernel
theorem d30_49 : decode jdk_52_method_5_code 49 = .ok (.sipush 255, 3) := by decide +kernel
theorem d30_52 : decode jdk_52_method_5_code 52 = .ok (.iand, 1) := by decide +kernel
theorem d30_53 : decode jdk_52_method_5_code 53 = .ok (.getstatic 63, 3) := by decide +kernel
theorem d30_56 : decode jdk_52_method_5_code 56 = .ok (.ishl, 1) := by decide +kernel
theorem d30_57 : decode jdk_52_method_5_code 57 = .ok (.ior, 1) := by decide +kernel
theorem d30_58 : decode jdk_52_method_5_code 58 = .ok (.i2c, 1) := by decide +kernel
theorem d30_59 : decode jdk_52_method_5_code 59 = .ok (.ireturn, 1) := by decide +kernel
theorem d32_0 : decode jdk_52_method_91_code 0 = .ok (.iload_n 0, 1) := by decide +kernel
theorem d32_1 : decode jdk_52_method_91_code 1 = .ok (.aload_n 1, 1) := by decide +kernel
theorem d32_2 : decode jdk_52_method_91_code 2 = .ok (.invokestatic 48, 3) := by decide +kernel
theorem d32_5 : decode jdk_52_method_91_code 5 = .ok (.invokestatic 414, 3) := by decide +kernel
theorem d32_8 : decode jdk_52_method_91_code 8 = .ok (.return_, 1) := by decide +kernel
theorem pd_14 : parseMethodDescriptor "([B)I" = some ⟨[(.array .byte)], some .int⟩ := by decide +kernel
theorem d31_0 : decode jdk_52_method_83_code 0 = .ok (.iload_n 1, 1) := by decide +kernel
theorem d31_1 : decode jdk_52_method_83_code 1 = .ok (.aload_n 0, 1) := by decide +kernel
theorem d31_2 : decode jdk_52_method_83_code 2 = .ok (.invokestatic 67, 3) := by decide +kernel
theorem d31_5 : decode jdk_52_method_83_code 5 = .ok (.aload_n 0, 1) := by decide +kernel
theorem d31_6 : decode jdk_52_method_83_code 6 = .ok (.iload_n 1, 1) := by decide +kernel
theorem d31_7 : decode jdk_52_method_83_code 7 = .ok (.invokestatic 71, 3) := by decide +kernel
theorem d31_10 : decode jdk_52_method_83_code 10 = .ok (.ireturn, 1) := by decide +kernel
theorem pd_12 : parseMethodDescriptor "(I[B)V" = some ⟨[.int, (.array .byte)], none⟩ := by decide +kernel
theorem pd_16 : parseMethodDescriptor "([BI)C" = some ⟨[(.array .byte), .int], some .char⟩ := by decide +kernel
theorem d13_0 : decode jdk_42_method_56_code 0 = .ok (.aload_n 0, 1) := by decide +kernel
theorem d13_1 : decode jdk_42_method_56_code 1 = .ok (.invokevirtual 492, 3) := by decide +kernel
theorem d13_4 : decode jdk_42_method_56_code 4 = .ok (.ifCond .eq 12, 3) := by decide +kernel
theorem d13_7 : decode jdk_42_method_56_code 7 = .ok (.aload_n 0, 1) := by decide +kernel
theorem d13_8 : decode jdk_42_method_56_code 8 = .ok (.getfield 9, 3) := by decide +kernel
theorem d13_11 : decode jdk_42_method_56_code 11 = .ok (.iload_n 1, 1) := by decide +kernel
theorem d13_12 : decode jdk_42_method_56_code 12 = .ok (.invokestatic 495, 3) := by decide +kernel
theorem d13_15 : decode jdk_42_method_56_code 15 = .ok (.ireturn, 1) := by decide +kernel
theorem d13_16 : decode jdk_42_method_56_code 16 = .ok (.aload_n 0, 1) := by decide +kernel
theorem d13_17 : decode jdk_42_method_56_code 17 = .ok (.getfield 9, 3) := by decide +kernel
theorem d13_20 : decode jdk_42_method_56_code 20 = .ok (.iload_n 1, 1) := by decide +kernel
theorem d13_21 : decode jdk_42_method_56_code 21 = .ok (.invokestatic 498, 3) := by decide +kernel
theorem d13_24 : decode jdk_42_method_56_code 24 = .ok (.ireturn, 1) := by decide +kernel
theorem pd_3 : parseMethodDescriptor "()Z" = some ⟨[], some .boolean⟩ := by decide +kernel
theorem d20_0 : decode jdk_42_method_80_code 0 = .ok (.aload_n 0, 1) := by decide +kernel
theorem d20_1 : decode jdk_42_method_80_code 1 = .ok (.invokevirtual 492, 3) := by decide +kernel
theorem d20_4 : decode jdk_42_method_80_code 4 = .ok (.ifCond .eq 19, 3) := by decide +kernel
theorem d20_7 : decode jdk_42_method_80_code 7 = .ok (.aload_n 0, 1) := by decide +kernel
theorem d20_8 : decode jdk_42_method_80_code 8 = .ok (.getfield 9, 3) := by decide +kernel
theorem d20_11 : decode jdk_42_method_80_code 11 = .ok (.iload_n 1, 1) := by decide +kernel
theorem d20_12 : decode jdk_42_method_80_code 12 = .ok (.iload_n 2, 1) := by decide +kernel
theorem d20_13 : decode jdk_42_method_80_code 13 = .ok (.aload_n 0, 1) := by decide +kernel
theorem d20_14 : decode jdk_42_method_80_code 14 = .ok (.invokevirtual 505, 3) := by decide +kernel
theorem d20_17 : decode jdk_42_method_80_code 17 = .ok (.invokestatic 637, 3) := by decide +kernel
theorem d20_20 : decode jdk_42_method_80_code 20 = .ok (.goto 16, 3) := by decide +kernel
theorem d20_36 : decode jdk_42_method_80_code 36 = .ok (.ireturn, 1) := by decide +kernel
theorem pd_1 : parseMethodDescriptor "()I" = some ⟨[], some .int⟩ := by decide +kernel
theorem d19_0 : decode jdk_42_method_79_code 0 = .ok (.aload_n 0, 1) := by decide +kernel
theorem d19_1 : decode jdk_42_method_79_code 1 = .ok (.iload_n 1, 1) := by decide +kernel
theorem d19_2 : decode jdk_42_method_79_code 2 = .ok (.iconst 0, 1) := by decide +kernel
theorem d19_3 : decode jdk_42_method_79_code 3 = .ok (.invokevirtual 633, 3) := by decide +kernel
theorem d19_6 : decode jdk_42_method_79_code 6 = .ok (.ireturn, 1) := by decide +kernel
theorem d28_0 : decode jdk_52_method_3_code 0 = .ok (.iload_n 0, 1) := by decide +kernel
theorem d28_1 : decode jdk_52_method_3_code 1 = .ok (.ifCond .ge 11, 3) := by decide +kernel
theorem d28_12 : decode jdk_52_method_3_code 12 = .ok (.iload_n 0, 1) := by decide +kernel
theorem d28_13 : decode jdk_52_method_3_code 13 = .ok (.ldc 20, 2) := by decide +kernel
theorem d28_15 : decode jdk_52_method_3_code 15 = .ok (.if_icmp .lt 40, 3) := by decide +kernel
theorem d28_55 : decode jdk_52_method_3_code 55 = .ok (.iload_n 0, 1) := by decide +kernel
theorem d28_56 : decode jdk_52_method_3_code 56 = .ok (.iconst 1, 1) := by decide +kernel
theorem d28_57 : decode jdk_52_method_3_code 57 = .ok (.ishl, 1) := by decide +kernel
theorem d28_58 : decode jdk_52_method_3_code 58 = .ok (.ireturn, 1) := by decide +kernel
theorem d27_0 : decode jdk_52_method_2_code 0 = .ok (.iload_n 0, 1) := by decide +kernel
theorem d27_1 : decode jdk_52_method_2_code 1 = .ok (.invokestatic 11, 3) := by decide +kernel
theorem d27_4 : decode jdk_52_method_2_code 4 = .ok (.newarray .byte, 2) := by decide +kernel
theorem d27_6 : decode jdk_52_method_2_code 6 = .ok (.areturn, 1) := by decide +kernel
theorem pd_6 : parseMethodDescriptor "(I)I" = some ⟨[.int], some .int⟩ := by decide +kernel
theorem d9_0 : decode jdk_52_method_15_code 0 = .ok (.iload_n 1, 1) := by decide +kernel
theorem d9_1 : decode jdk_52_method_15_code 1 = .ok (.aload_n 0, 1) := by decide +kernel
theorem d9_2 : decode jdk_52_method_15_code 2 = .ok (.arraylength, 1) := by decide +kernel
theorem d9_3 : decode jdk_52_method_15_code 3 = .ok (.isub, 1) := by decide +kernel
theorem d9_4 : decode jdk_52_method_15_code 4 = .ok (.bipush 31, 2) := by decide +kernel
theorem d9_6 : decode jdk_52_method_15_code 6 = .ok (.iushr, 1) := by decide +kernel
theorem d9_7 : decode jdk_52_method_15_code 7 = .ok (.i2b, 1) := by decide +kernel
theorem d9_8 : decode jdk_52_method_15_code 8 = .ok (.ireturn, 1) := by decide +kernel
theorem d29_0 : decode jdk_52_method_4_code 0 = .ok (.getstatic 44, 3) := by decide +kernel
theorem d29_3 : decode jdk_52_method_4_code 3 = .ok (.ifCond .ne 25, 3) := by decide +kernel
theorem d29_28 : decode jdk_52_method_4_code 28 = .ok (.iload_n 1, 1) := by decide +kernel
theorem d29_29 : decode jdk_52_method_4_code 29 = .ok (.iconst 1, 1) := by decide +kernel
theorem d29_30 : decode jdk_52_method_4_code 30 = .ok (.ishl, 1) := by decide +kernel
theorem d29_31 : decode jdk_52_method_4_code 31 = .ok (.istore_n 1, 1) := by decide +kernel
theorem d29_32 : decode jdk_52_method_4_code 32 = .ok (.aload_n 0, 1) := by decide +kernel
theorem d29_33 : decode jdk_52_method_4_code 33 = .ok (.iload_n 1, 1) := by decide +kernel
theorem d29_34 : decode jdk_52_method_4_code 34 = .ok (.iinc 1 1, 3) := by decide +kernel
theorem d29_37 : decode jdk_52_method_4_code 37 = .ok (.iload_n 2, 1) := by decide +kernel
theorem d29_38 : decode jdk_52_method_4_code 38 = .ok (.getstatic 59, 3) := by decide +kernel
theorem d29_41 : decode jdk_52_method_4_code 41 = .ok (.ishr, 1) := by decide +kernel
theorem d29_42 : decode jdk_52_method_4_code 42 = .ok (.i2b, 1) := by decide +kernel
theorem d29_43 : decode jdk_52_method_4_code 43 = .ok (.bastore, 1) := by decide +kernel
theorem d29_44 : decode jdk_52_method_4_code 44 = .ok (.aload_n 0, 1) := by decide +kernel
theorem d29_45 : decode jdk_52_method_4_code 45 = .ok (.iload_n 1, 1) := by decide +kernel
theorem d29_46 : decode jdk_52_method_4_code 46 = .ok (.iload_n 2, 1) := by decide +kernel
theorem d29_47 : decode jdk_52_method_4_code 47 = .ok (.getstatic 63, 3) := by decide +kernel
theorem d29_50 : decode jdk_52_method_4_code 50 = .ok (.ishr, 1) := by decide +kernel
theorem d29_51 : decode jdk_52_method_4_code 51 = .ok (.i2b, 1) := by decide +kernel
theorem d29_52 : decode jdk_52_method_4_code 52 = .ok (.bastore, 1) := by decide +kernel
theorem d29_53 : decode jdk_52_method_4_code 53 = .ok (.return_, 1) := by decide +kernel
theorem d26_0 : decode jdk_52_method_14_code 0 = .ok (.iload_n 2, 1) := by decide +kernel
theorem d26_1 : decode jdk_52_method_14_code 1 = .ok (.invokestatic 107, 3) := by decide +kernel
theorem d26_4 : decode jdk_52_method_14_code 4 = .ok (.astore_n 3, 1) := by decide +kernel
theorem d26_5 : decode jdk_52_method_14_code 5 = .ok (.iconst 0, 1) := by decide +kernel
theorem d26_6 : decode jdk_52_method_14_code 6 = .ok (.istore 4, 2) := by decide +kernel
theorem d26_8 : decode jdk_52_method_14_code 8 = .ok (.iload 4, 2) := by decide +kernel
theorem d26_10 : decode jdk_52_method_14_code 10 = .ok (.iload_n 2, 1) := by decide +kernel
theorem d26_11 : decode jdk_52_method_14_code 11 = .ok (.if_icmp .ge 21, 3) := by decide +kernel
theorem d26_14 : decode jdk_52_method_14_code 14 = .ok (.aload_n 3, 1) := by decide +kernel
theorem d26_15 : decode jdk_52_method_14_code 15 = .ok (.iload 4, 2) := by decide +kernel
theorem d26_17 : decode jdk_52_method_14_code 17 = .ok (.aload_n 0, 1) := by decide +kernel
theorem d26_18 : decode jdk_52_method_14_code 18 = .ok (.iload_n 1, 1) := by decide +kernel
theorem d26_19 : decode jdk_52_method_14_code 19 = .ok (.caload, 1) := by decide +kernel
theorem d26_20 : decode jdk_52_method_14_code 20 = .ok (.invokestatic 111, 3) := by decide +kernel
theorem d26_23 : decode jdk_52_method_14_code 23 = .ok (.iinc 1 1, 3) := by decide +kernel
theorem d26_26 : decode jdk_52_method_14_code 26 = .ok (.iinc 4 1, 3) := by decide +kernel
theorem d26_29 : decode jdk_52_method_14_code 29 = .ok (.goto (-21), 3) := by decide +kernel
theorem d26_32 : decode jdk_52_method_14_code 32 = .ok (.aload_n 3, 1) := by decide +kernel
theorem d26_33 : decode jdk_52_method_14_code 33 = .ok (.areturn, 1) := by decide +kernel
theorem pd_8 : parseMethodDescriptor "(I)[B" = some ⟨[.int], some (.array .byte)⟩ := by decide +kernel
theorem pd_17 : parseMethodDescriptor "([BII)V" = some ⟨[(.array .byte), .int, .int], none⟩ := by decide +kernel
theorem d8_0 : decode jdk_52_method_21_code 0 = .ok (.iconst 0, 1) := by decide +kernel
theorem d8_1 : decode jdk_52_method_21_code 1 = .ok (.istore 5, 2) := by decide +kernel
theorem d8_3 : decode jdk_52_method_21_code 3 = .ok (.iload 5, 2) := by decide +kernel
theorem d8_5 : decode jdk_52_method_21_code 5 = .ok (.iload 4, 2) := by decide +kernel
theorem d8_7 : decode jdk_52_method_21_code 7 = .ok (.if_icmp .ge 37, 3) := by decide +kernel
theorem d8_10 : decode jdk_52_method_21_code 10 = .ok (.aload_n 0, 1) := by decide +kernel
theorem d8_11 : decode jdk_52_method_21_code 11 = .ok (.iload_n 1, 1) := by decide +kernel
theorem d8_12 : decode jdk_52_method_21_code 12 = .ok (.caload, 1) := by decide +kernel
theorem d8_13 : decode jdk_52_method_21_code 13 = .ok (.istore 6, 2) := by decide +kernel
theorem d8_15 : decode jdk_52_method_21_code 15 = .ok (.iload 6, 2) := by decide +kernel
theorem d8_17 : decode jdk_52_method_21_code 17 = .ok (.sipush 255, 3) := by decide +kernel
theorem d8_20 : decode jdk_52_method_21_code 20 = .ok (.if_icmp .le 6, 3) := by decide +kernel
theorem d8_23 : decode jdk_52_method_21_code 23 = .ok (.iload 5, 2) := by decide +kernel
theorem d8_25 : decode jdk_52_method_21_code 25 = .ok (.ireturn, 1) := by decide +kernel
theorem d8_26 : decode jdk_52_method_21_code 26 = .ok (.aload_n 2, 1) := by decide +kernel
theorem d8_27 : decode jdk_52_method_21_code 27 = .ok (.iload_n 3, 1) := by decide +kernel
theorem d8_28 : decode jdk_52_method_21_code 28 = .ok (.iload 6, 2) := by decide +kernel
theorem d8_30 : decode jdk_52_method_21_code 30 = .ok (.i2b, 1) := by decide +kernel
theorem d8_31 : decode jdk_52_method_21_code 31 = .ok (.bastore, 1) := by decide +kernel
theorem d8_32 : decode jdk_52_method_21_code 32 = .ok (.iinc 1 1, 3) := by decide +kernel
theorem d8_35 : decode jdk_52_method_21_code 35 = .ok (.iinc 3 1, 3) := by decide +kernel
theorem d8_38 : decode jdk_52_method_21_code 38 = .ok (.iinc 5 1, 3) := by decide +kernel
theorem d8_41 : decode jdk_52_method_21_code 41 = .ok (.goto (-38), 3) := by decide +kernel
theorem d8_44 : decode jdk_52_method_21_code 44 = .ok (.iload 4, 2) := by decide +kernel
theorem d8_46 : decode jdk_52_method_21_code 46 = .ok (.ireturn, 1) := by decide +kernel
theorem d7_0 : decode jdk_52_method_16_code 0 = .ok (.iload_n 2, 1) := by decide +kernel
theorem d7_1 : decode jdk_52_method_16_code 1 = .ok (.newarray .byte, 2) := by decide +kernel
theorem d7_3 : decode jdk_52_method_16_code 3 = .ok (.astore_n 3, 1) := by decide +kernel
theorem d7_4 : decode jdk_52_method_16_code 4 = .ok (.aload_n 0, 1) := by decide +kernel
theorem d7_5 : decode jdk_52_method_16_code 5 = .ok (.iload_n 1, 1) := by decide +kernel
theorem d7_6 : decode jdk_52_method_16_code 6 = .ok (.aload_n 3, 1) := by decide +kernel
theorem d7_7 : decode jdk_52_method_16_code 7 = .ok (.iconst 0, 1) := by decide +kernel
theorem d7_8 : decode jdk_52_method_16_code 8 = .ok (.iload_n 2, 1) := by decide +kernel
theorem d7_9 : decode jdk_52_method_16_code 9 = .ok (.invokestatic 115, 3) := by decide +kernel
theorem d7_12 : decode jdk_52_method_16_code 12 = .ok (.istore 4, 2) := by decide +kernel
theorem d7_14 : decode jdk_52_method_16_code 14 = .ok (.iload 4, 2) := by decide +kernel
theorem d7_16 : decode jdk_52_method_16_code 16 = .ok (.iload_n 2, 1) := by decide +kernel
theorem d7_17 : decode jdk_52_method_16_code 17 = .ok (.if_icmp .eq 40, 3) := by decide +kernel
theorem d7_20 : decode jdk_52_method_16_code 20 = .ok (.aload_n 0, 1) := by decide +kernel
theorem d7_21 : decode jdk_52_method_16_code 21 = .ok (.iload_n 1, 1) := by decide +kernel
theorem d7_22 : decode jdk_52_method_16_code 22 = .ok (.iload_n 2, 1) := by decide +kernel
theorem d7_23 : decode jdk_52_method_16_code 23 = .ok (.invokestatic 119, 3) := by decide +kernel
theorem d7_26 : decode jdk_52_method_16_code 26 = .ok (.astore 5, 2) := by decide +kernel
theorem d7_28 : decode jdk_52_method_16_code 28 = .ok (.aload 5, 2) := by decide +kernel
theorem d7_30 : decode jdk_52_method_16_code 30 = .ok (.iload 4, 2) := by decide +kernel
theorem d7_32 : decode jdk_52_method_16_code 32 = .ok (.invokestatic 71, 3) := by decide +kernel
theorem d7_35 : decode jdk_52_method_16_code 35 = .ok (.sipush 255, 3) := by decide +kernel
theorem d7_38 : decode jdk_52_method_16_code 38 = .ok (.if_icmp .gt 16, 3) := by decide +kernel
theorem d7_54 : decode jdk_52_method_16_code 54 = .ok (.aload 5, 2) := by decide +kernel
theorem d7_56 : decode jdk_52_method_16_code 56 = .ok (.areturn, 1) := by decide +kernel
theorem pd_22 : parseMethodDescriptor "([CI[BII)I" = some ⟨[(.array .char), .int, (.array .byte), .int, .int], some .int⟩ := by decide +kernel
theorem pd_20 : parseMethodDescriptor "([CII)[B" = some ⟨[(.array .char), .int, .int], some (.array .byte)⟩ := by decide +kernel
theorem d7_57 : decode jdk_52_method_16_code 57 = .ok (.aload_n 3, 1) := by decide +kernel
theorem d7_58 : decode jdk_52_method_16_code 58 = .ok (.areturn, 1) := by decide +kernel
theorem d3_0 : decode jdk_42_method_149_code 0 = .ok (.aload_n 0, 1) := by decide +kernel
theorem d3_1 : decode jdk_42_method_149_code 1 = .ok (.invokespecial 1, 3) := by decide +kernel
theorem d3_4 : decode jdk_42_method_149_code 4 = .ok (.iload_n 3, 1) := by decide +kernel
theorem d3_5 : decode jdk_42_method_149_code 5 = .ok (.ifCond .ne 22, 3) := by decide +kernel
theorem d3_27 : decode jdk_42_method_149_code 27 = .ok (.getstatic 38, 3) := by decide +kernel
theorem d3_30 : decode jdk_42_method_149_code 30 = .ok (.ifCond .eq 28, 3) := by decide +kernel
theorem d3_33 : decode jdk_42_method_149_code 33 = .ok (.aload_n 1, 1) := by decide +kernel
theorem d3_34 : decode jdk_42_method_149_code 34 = .ok (.iload_n 2, 1) := by decide +kernel
theorem d3_35 : decode jdk_42_method_149_code 35 = .ok (.iload_n 3, 1) := by decide +kernel
theorem d3_36 : decode jdk_42_method_149_code 36 = .ok (.invokestatic 177, 3) := by decide +kernel
theorem d3_39 : decode jdk_42_method_149_code 39 = .ok (.astore 5, 2) := by decide +kernel
theorem d3_41 : decode jdk_42_method_149_code 41 = .ok (.aload_n 0, 1) := by decide +kernel
theorem d3_42 : decode jdk_42_method_149_code 42 = .ok (.aload 5, 2) := by decide +kernel
theorem d3_44 : decode jdk_42_method_149_code 44 = .ok (.iload_n 3, 1) := by decide +kernel
theorem d3_45 : decode jdk_42_method_149_code 45 = .ok (.invokestatic 47, 3) := by decide +kernel
theorem d3_48 : decode jdk_42_method_149_code 48 = .ok (.putfield 15, 3) := by decide +kernel
theorem d3_51 : decode jdk_42_method_149_code 51 = .ok (.aload_n 0, 1) := by decide +kernel
theorem d3_52 : decode jdk_42_method_149_code 52 = .ok (.aload 5, 2) := by decide +kernel
theorem d3_54 : decode jdk_42_method_149_code 54 = .ok (.putfield 9, 3) := by decide +kernel
theorem d3_57 : decode jdk_42_method_149_code 57 = .ok (.return_, 1) := by decide +kernel
theorem pd_15 : parseMethodDescriptor "([BI)B" = some ⟨[(.array .byte), .int], some .byte⟩ := by decide +kernel
theorem d2_0 : decode jdk_42_method_3_code 0 = .ok (.aload_n 0, 1) := by decide +kernel
theorem d2_1 : decode jdk_42_method_3_code 1 = .ok (.aload_n 1, 1) := by decide +kernel
theorem d2_2 : decode jdk_42_method_3_code 2 = .ok (.iconst 0, 1) := by decide +kernel
theorem d2_3 : decode jdk_42_method_3_code 3 = .ok (.aload_n 1, 1) := by decide +kernel
theorem d2_4 : decode jdk_42_method_3_code 4 = .ok (.arraylength, 1) := by decide +kernel
theorem d2_5 : decode jdk_42_method_3_code 5 = .ok (.aconst_null, 1) := by decide +kernel
theorem d2_6 : decode jdk_42_method_3_code 6 = .ok (.invokespecial 27, 3) := by decide +kernel
theorem d2_9 : decode jdk_42_method_3_code 9 = .ok (.return_, 1) := by decide +kernel
theorem pd_21 : parseMethodDescriptor "([CIILjava/lang/Void;)V" = some ⟨[(.array .char), .int, .int, (.object "java/lang/Void")], none⟩ := by decide +kernel
theorem d3_8 : decode jdk_42_method_149_code 8 = .ok (.aload_n 0, 1) := by decide +kernel
theorem d3_9 : decode jdk_42_method_149_code 9 = .ok (.ldc 7, 2) := by decide +kernel
theorem d3_11 : decode jdk_42_method_149_code 11 = .ok (.getfield 9, 3) := by decide +kernel
theorem d3_14 : decode jdk_42_method_149_code 14 = .ok (.putfield 9, 3) := by decide +kernel
theorem d3_17 : decode jdk_42_method_149_code 17 = .ok (.aload_n 0, 1) := by decide +kernel
theorem d3_18 : decode jdk_42_method_149_code 18 = .ok (.ldc 7, 2) := by decide +kernel
theorem d3_20 : decode jdk_42_method_149_code 20 = .ok (.getfield 15, 3) := by decide +kernel
theorem d3_23 : decode jdk_42_method_149_code 23 = .ok (.putfield 15, 3) := by decide +kernel
theorem d3_26 : decode jdk_42_method_149_code 26 = .ok (.return_, 1) := by decide +kernel
theorem d5_0 : decode prog_3_method_4_code 0 = .ok (.aload_n 0, 1) := by decide +kernel
theorem d5_1 : decode prog_3_method_4_code 1 = .ok (.invokevirtual 50, 3) := by decide +kernel
theorem d5_4 : decode prog_3_method_4_code 4 = .ok (.ifCond .eq 5, 3) := by decide +kernel
theorem d5_7 : decode prog_3_method_4_code 7 = .ok (.iconst 0, 1) := by decide +kernel
theorem d5_8 : decode prog_3_method_4_code 8 = .ok (.ireturn, 1) := by decide +kernel
theorem d5_9 : decode prog_3_method_4_code 9 = .ok (.iconst 0, 1) := by decide +kernel
theorem d5_10 : decode prog_3_method_4_code 10 = .ok (.istore_n 1, 1) := by decide +kernel
theorem d5_11 : decode prog_3_method_4_code 11 = .ok (.iload_n 1, 1) := by decide +kernel
theorem d5_12 : decode prog_3_method_4_code 12 = .ok (.aload_n 0, 1) := by decide +kernel
theorem d5_13 : decode prog_3_method_4_code 13 = .ok (.invokevirtual 54, 3) := by decide +kernel
theorem d5_16 : decode prog_3_method_4_code 16 = .ok (.if_icmp .ge 33, 3) := by decide +kernel
theorem d5_19 : decode prog_3_method_4_code 19 = .ok (.aload_n 0, 1) := by decide +kernel
theorem d5_20 : decode prog_3_method_4_code 20 = .ok (.iload_n 1, 1) := by decide +kernel
theorem d5_21 : decode prog_3_method_4_code 21 = .ok (.invokevirtual 58, 3) := by decide +kernel
theorem d5_24 : decode prog_3_method_4_code 24 = .ok (.istore_n 2, 1) := by decide +kernel
theorem d5_25 : decode prog_3_method_4_code 25 = .ok (.iload_n 2, 1) := by decide +kernel
theorem d5_26 : decode prog_3_method_4_code 26 = .ok (.invokestatic 62, 3) := by decide +kernel
theorem d5_29 : decode prog_3_method_4_code 29 = .ok (.ifCond .ne 14, 3) := by decide +kernel
theorem d5_32 : decode prog_3_method_4_code 32 = .ok (.ldc 66, 2) := by decide +kernel
theorem d5_34 : decode prog_3_method_4_code 34 = .ok (.iload_n 2, 1) := by decide +kernel
theorem d5_35 : decode prog_3_method_4_code 35 = .ok (.invokevirtual 68, 3) := by decide +kernel
theorem d5_38 : decode prog_3_method_4_code 38 = .ok (.ifCond .ge 5, 3) := by decide +kernel
theorem d5_41 : decode prog_3_method_4_code 41 = .ok (.iconst 0, 1) := by decide +kernel
theorem d5_42 : decode prog_3_method_4_code 42 = .ok (.ireturn, 1) := by decide +kernel
theorem d5_43 : decode prog_3_method_4_code 43 = .ok (.iinc 1 1, 3) := by decide +kernel
theorem d5_46 : decode prog_3_method_4_code 46 = .ok (.goto (-35), 3) := by decide +kernel
theorem d5_49 : decode prog_3_method_4_code 49 = .ok (.iconst 1, 1) := by decide +kernel
theorem d5_50 : decode prog_3_method_4_code 50 = .ok (.ireturn, 1) := by decide +kernel
theorem pd_5 : parseMethodDescriptor "(I)C" = some ⟨[.int], some .char⟩ := by decide +kernel
theorem pd_4 : parseMethodDescriptor "(C)Z" = some ⟨[.char], some .boolean⟩ := by decide +kernel
theorem pd_19 : parseMethodDescriptor "([C)V" = some ⟨[(.array .char)], none⟩ := by decide +kernel
theorem pd_13 : parseMethodDescriptor "(Ljava/lang/String;)Z" = some ⟨[(.object "java/lang/String")], some .boolean⟩ := by decide +kernel
section OwnCopy
variable {p : Program} {l : Launch} {e : Env} {R : Room} {s : State} {m : MethodId} {args : Array Value} {below : List Frame} {meth : Method} {c : Code} {T T' : State} {locs : List Loc} {cells slots : Nat} {G : State → Outcome → Prop} {Ls : Array Slot} {st : List Value} {pc : Nat} {bs : ByteArray} {Z : State} {a0 : Array Value} {h : Heap}
theorem own_ofArv {a : Addr} {ty : FieldType} {k : ClassId} {z : Int32} {vs : List Value} {d : Value} (F : Arv Z h a k ty z vs d) {n : Nat} (q : z.toNatClampNeg = n) : Afn Z h a ty n (fun i => vs.getD i d) := by
  obtain ⟨cl, A, -, S, -, H, Gf⟩ := F
  subst q
  exact ⟨cl, A, S, fun i hi => ⟨H i (by rw [S]; exact hi), Gf i (by rw [S]; exact hi)⟩⟩
/-- what stands in an array behind a copy of k first places -/
def own_cp (f : Nat → Int32) (k : Nat) : Nat → Int32 := fun i => if i < k then f i else 0
end OwnCopy

section OwnHeld
variable {p : Program} {l : Launch} {e : Env} {R : Room} {s : State} {m : MethodId} {args : Array Value} {below : List Frame} {meth : Method} {c : Code} {T T' : State} {locs : List Loc} {cells slots : Nat} {G : State → Outcome → Prop} {Ls : Array Slot} {st : List Value} {pc : Nat} {bs : ByteArray} {Z : State} {a0 : Array Value} {h h00 : Heap} {vm0 v00 : Vm} {EL : List (String × Nat)} {g : JFrame}
/-- the end of a body that may load constants whose text counts -/
def FinH (s Z : State) (EL : List (String × Nat)) (v0 : Vm) (h0 : Heap) (Q : Option Value → Heap → List Loc → Prop) (kc ks : Nat) (U' : State) (o : Outcome) : Prop :=
  ∃ v L, o = .returned v ∧ Q v U'.heap L ∧ CHr Z EL v0 h0 U'.vm U'.heap ∧ ReturnedEndW s o U' L kc ks
def Met1H (l : Launch) (Z : State) (EL : List (String × Nat)) (y : MethodName) (bytes : ByteArray) (maxL : Nat) (rt : Option FieldType) (rm : Room) (as : Array Value) (h0 : Heap) (Q : Option Value → Heap → List Loc → Prop) : Prop :=
  ∀ ws : List Jvm.Cond, MetFree l y (head1 (Jvm.Cond.code y bytes maxL rt :: ws) rm) (fun a U => a = as ∧ Z.Warmed39 U.vm ∧ U.heap = h0 ∧ CHv Z EL U.vm h0) (fun _ _ _ _ _ => True)
    (fun _ U o U' => ∃ v L, o = .returned v ∧ Q v U'.heap L ∧ CHr Z EL U.vm U.heap U'.vm U'.heap ∧ ReturnedEndW U o U' L rm.cells rm.slots)
theorem own_met_ofH {Z : State} {EL : List (String × Nat)} {y : MethodName} {bytes : ByteArray} {maxL : Nat} {rt : Option FieldType} {rm : Room} {as : Array Value} {h0 : Heap} {Q : Option Value → Heap → List Loc → Prop} {Ls0 : Array Slot} (hpl : plainFor y = true) (ef : ∀ m, entryFrame m as maxL = mkF m 0 Ls0 [])
    (body : ∀ (p : Program) (e : Env) (s : State) (m : MethodId) (below : List Frame) (meth : Method) (c : Code) (s₁ : State) (vm0 : Vm), Stand p l e rm (s.setVm vm0) m as below meth c s₁ [] 0 0 → p.tables.exec = Jvm.exec → c.code = bytes → c.maxLocals = maxL → Z.Warmed39 (s.setVm vm0).vm → (s.setVm vm0).vm.findClass y.cls = some m.cls → meth.name = y.name → meth.sig.returnType = rt → meth.locks = false → s₁.heap = h0 → s.Since vm0 0 → s.heap = h0 → CHv Z EL vm0 h0 →
      Go p e below (FinH s Z EL vm0 h0 Q rm.cells rm.slots) s₁ (mkF m 0 Ls0 [])) : Met1H l Z EL y bytes maxL rt rm as h0 Q := by
  intro ws
  refine MetFree.of_bodySF hpl hisR ?_
  intro p e s m args below meth c s₁ Bd hml0 hP hK
  obtain ⟨rfl, hZ, hh, hC⟩ := hP
  have k := body p e s m below meth c s₁ s.vm (Stand.of_body Bd) Bd.exec Bd.bytes hml0 hZ (findClass_of_methodNamed Bd.named) (name_of_methodNamed Bd.named Bd.method).1 Bd.returns Bd.notSynchronized (by rw [← hh, Bd.state]; rfl) ((State.WarmedH.refl s).since 0) hh hC
  rw [← ef m] at k
  rw [← hh] at k
  exact k
theorem own_leaveH {Q : Option Value → Heap → List Loc → Prop} {kc ks k0 : Nat} {v : Option Value} (X : Stand p l e R (s.setVm vm0) m args below meth c T locs cells slots) (hZ : Z.Warmed39 (s.setVm vm0).vm) (hS : s.Since vm0 k0) (hk : k0 ≤ T.heap.size) (eT : T.heap = h) (hEL : EW Z a0 EL) (Rr : CHr Z EL v00 h00 vm0 h) (hv : meth.sig.returnType = none → v = none) (hlk : meth.locks = false) (hc : cells ≤ kc) (hs : slots ≤ ks) (hQ : Q v T.heap locs)
    (k : ∀ fs, (∀ (f : JFrame) (acts : List Action), f.method = m → f.locked = none → f.entered = [] → (doReturn e (T.setTop f) acts v).1 = T.setFrames fs) → Steps p.tables e below (T.setTop g) (T.setFrames fs)) : Go p e below (FinH s Z EL v00 h00 Q kc ks) T g := by
  obtain ⟨fs, hr, hrun, hended, r1, r2, r3, r4⟩ := X.leaveW hS hk (v := v) hv hlk
  have q : CHr Z EL v00 h00 T.vm T.heap := by
    subst eT
    exact Rr.trans (CHv.at X hZ hEL Rr.1)
  exact ⟨_, _, k fs hr, hrun, hended, _, _, rfl, hQ, q, r1, r2, r3, r4.mono hc hs⟩
theorem own_retNH {Q : Option Value → Heap → List Loc → Prop} {kc ks k0 : Nat} {z z' : Int32} {t : FieldType} (X : Stand p l e R (s.setVm vm0) m args below meth c T locs cells slots) (hx : p.tables.exec = Jvm.exec) (hby : c.code = bs) (hZ : Z.Warmed39 (s.setVm vm0).vm) (hS : s.Since vm0 k0) (hk : k0 ≤ T.heap.size) (eT : T.heap = h) (hEL : EW Z a0 EL) (Rr : CHr Z EL v00 h00 vm0 h) (hret : meth.sig.returnType = some t) (hlk : meth.locks = false) (ht : t = .boolean ∨ t = .byte ∨ t = .char ∨ t = .short) (hd : decode bs pc = .ok (.ireturn, 1)) (hc : cells ≤ kc) (hs : slots ≤ ks) (hn : nar t z = z') (hQ : Q (some (.int z')) T.heap locs) : Go p e below (FinH s Z EL v00 h00 Q kc ks) T (mkF m pc Ls (.int z :: st)) := by
  subst hn
  refine own_leaveH X hZ hS hk eT hEL Rr (fun q => by rw [hret] at q; cases q) hlk hc hs hQ fun fs hr => ?_
  exact retN X hx hret ht (hb hby hd) hr
theorem own_retH {Q : Option Value → Heap → List Loc → Prop} {kc ks k0 : Nat} (X : Stand p l e R (s.setVm vm0) m args below meth c T locs cells slots) (hx : p.tables.exec = Jvm.exec) (hby : c.code = bs) (hZ : Z.Warmed39 (s.setVm vm0).vm) (hS : s.Since vm0 k0) (hk : k0 ≤ T.heap.size) (eT : T.heap = h) (hEL : EW Z a0 EL) (Rr : CHr Z EL v00 h00 vm0 h) (hret : meth.sig.returnType = none) (hlk : meth.locks = false) (hd : decode bs pc = .ok (.return_, 1)) (hc : cells ≤ kc) (hs : slots ≤ ks) (hQ : Q none T.heap locs) : Go p e below (FinH s Z EL v00 h00 Q kc ks) T (mkF m pc Ls []) := by
  refine own_leaveH X hZ hS hk eT hEL Rr (fun _ => rfl) hlk hc hs hQ fun fs hr => ?_
  exact X.returnOut hx hret (hb hby hd) hr
theorem own_ldcH (X : Stand p l e R (s.setVm vm0) m args below meth c T locs cells slots) (hx : p.tables.exec = Jvm.exec) (hby : c.code = bs) (hZ : Z.Warmed39 (s.setVm vm0).vm) {own text : String} {idx k0 : Nat} (hown : (s.setVm vm0).vm.findClass own = some m.cls) (w : (Jvm.Cond.stringLink own idx text).before a0 Z = true) (wS : ∀ a ∈ Bundle.stringAtoms, a.before a0 Z = true) (eT : T.heap = h) (hS : s.Since vm0 k0) (hk : k0 ≤ h.size) (hEL : EW Z a0 EL) (hmem : (own, idx) ∈ EL) (H : CHv Z EL vm0 h)
    {vs : List Value} {z : Int32} (ht : (∀ c ∈ text.toList, c.toNat < 256) ∧ text.toList.map (fun c => Value.int (Jvm.Lit.byteI c.toNat.toUInt16)) = vs) (hz : ¬ z < 0) (hl : z.toNatClampNeg = vs.length) (hd : decode bs pc = .ok (.ldc idx, 2)) {n : Nat} (hn : 4 * text.toList.length ≤ n) (hbig : n ≤ 536870912) (hc : cells + 2 ≤ R.cells) (hl' : slots + (n + 4) ≤ R.slots) (pc' : Nat) (hp : pc + 2 = pc')
    (k : ∀ (T' : State) (h' : Heap) (a b : Addr) (vm1 : Vm) (k1 : Nat), Stand p l e R (s.setVm vm1) m args below meth c T' locs (cells + 2) (slots + (n + 4)) → T'.heap = h' → Ext h h' → s.Since vm1 k1 → k1 ≤ h'.size → Z.Warmed39 (s.setVm vm1).vm → (s.setVm vm1).vm.findClass own = some m.cls → Exa Z h' a "java/lang/String" → Fld Z h' a "java/lang/String" "coder" "B" (.int 0) → Fld Z h' a "java/lang/String" "value" "[B" (.ref b) → Afn Z h' b .byte z.toNatClampNeg (fun i => vs.getD i (.int 0)) → CHr Z EL vm0 h vm1 h' → (∀ x, Safe Z EL vm1 h' x → x ≠ a ∧ x ≠ b) → Go p e below G T' (mkF m pc' Ls (.ref a :: st))) : Go p e below G T (mkF m pc Ls st) := by
  subst hp
  obtain ⟨a, T1, h1, k1, b, kk, X1, e1, E1, S1, g1, Z1, o1, q1, q2, q3, q4, -, -, C1, -, D1, st1⟩ := ldcCH X hx hZ hown w wS eT hS hk hEL hmem H ht hz hl (g := mkF m pc Ls st) rfl (hb hby hd) hn hbig hc hl'
  exact Go.by (fun t q => st1 t q) (k T1 h1 a b T1.vm k1 X1 e1 E1 S1 g1 Z1 o1 q1 q2 q3 (own_ofArv q4 rfl) C1 D1)
theorem own_callCH (X : Stand p l e R (s.setVm vm0) m args below meth c T locs cells slots) (hx : p.tables.exec = Jvm.exec) (hby : c.code = bs) (hZ : Z.Warmed39 (s.setVm vm0).vm) {own : String} {idx : Nat} {y : MethodName} {yb : ByteArray} {yml k0 : Nat} {rm : Room} {as : Array Value} {Qc : Option Value → Heap → List Loc → Prop} {a : Addr} (argsL : List Value) (has : (.ref a :: argsL).toArray = as) (hy1 : y.name = "<init>") (hown : (s.setVm vm0).vm.findClass own = some m.cls) (hS : s.Since vm0 k0) (hk : k0 ≤ h.size) (hEL : EW Z a0 EL) (Rr : CHr Z EL v00 h00 vm0 h) (w1 : (Jvm.Cond.methodLink own idx y).before a0 Z = true) (w2 : (Jvm.Cond.instanceMethod y).before a0 Z = true) (w3 : (Jvm.Cond.initialized y.cls).before a0 Z = true) (w4 : (Jvm.Cond.code y yb yml none).before a0 Z = true) (hy : y.cls ≠ "java/lang/invoke/MethodHandle" ∧ y.cls ≠ "java/lang/invoke/VarHandle") (hd : decode bs pc = .ok (.invokespecial idx, 3))
    (hM : Met1H l Z EL y yb yml none rm as h Qc) (eT : T.heap = h) {ps : List FieldType} {pr : Option FieldType} (hpd : parseMethodDescriptor y.desc = some ⟨ps, pr⟩) (hlen : argsL.length = ps.length) (hml : Ls.size = c.maxLocals) (hf : rm.frames + 1 ≤ R.frames) (W : Nat) (hW : (st.map fun v => v.category).sum = W) (hl : W + (yml + 11) + rm.locals ≤ R.locals) (hcl : cells + rm.cells ≤ R.cells) (hsl : slots + rm.slots ≤ R.slots) (pc' : Nat) (hp : pc + 3 = pc')
    (k : ∀ (T' : State) (L : List Loc) (v : Option Value) (vm1 : Vm), Stand p l e R (s.setVm vm1) m args below meth c T' (locs ++ L) (cells + rm.cells) (slots + rm.slots) → s.Since vm1 T'.heap.size → Z.Warmed39 (s.setVm vm1).vm → (s.setVm vm1).vm.findClass own = some m.cls → CHr Z EL v00 h00 vm1 T'.heap → Qc v T'.heap L → Go p e below G T' (mkF m pc' Ls (v.toList ++ st))) : Go p e below G T (mkF m pc Ls (argsL.reverse ++ .ref a :: st)) := by
  subst hp
  subst has
  obtain ⟨v, vm₁, ⟨T1, L1, k1, n1⟩, -, X1, hS1, g1, ⟨Lc, hQ, l1, y1, z1, hC⟩, st1⟩ := X.specialBackS hx (y := y) hy1 hown (mvT hZ w1) (mvT hZ w2) (mvT hZ w4) hy (backOfSH (W := W) (hM []) hZ w4 w3 hf hl hEL Rr.1) (g := mkF m pc Ls (argsL.reverse ++ .ref a :: st)) rfl hml (Steps.refl _) (a := a) (argsL := argsL) (rest := st) (lenOf hpd hlen) rfl (by show 2 * 0 + _ ≤ _; omega) (hb hby hd) (fun _ _ => ⟨rfl, eT, hcl, hsl⟩)
  dsimp only [Pt.U, Pt.locs, Pt.cells, Pt.slots] at X1 l1 y1 z1 st1 hQ hS1 g1 hC
  subst l1 y1 z1
  obtain ⟨X2, hS2, hZ2, hown2⟩ := rebS hS (eT ▸ hk) X1 hS1 g1 hZ hown
  exact Go.by (fun t q => st1.trans q) (k T1 Lc v _ X2 hS2 hZ2 hown2 (Rr.trans hC) hQ)
theorem own_callSH (X : Stand p l e R (s.setVm vm0) m args below meth c T locs cells slots) (hx : p.tables.exec = Jvm.exec) (hby : c.code = bs) (hZ : Z.Warmed39 (s.setVm vm0).vm) {own : String} {idx : Nat} {y : MethodName} {yb : ByteArray} {yml k0 : Nat} {yrt : Option FieldType} {rm : Room} {as : Array Value} {Qc : Option Value → Heap → List Loc → Prop} (argsL : List Value) (has : argsL.toArray = as) (hown : (s.setVm vm0).vm.findClass own = some m.cls) (hS : s.Since vm0 k0) (hk : k0 ≤ h.size) (hEL : EW Z a0 EL) (Rr : CHr Z EL v00 h00 vm0 h) (w1 : (Jvm.Cond.methodLink own idx y).before a0 Z = true) (w2 : (Jvm.Cond.static y).before a0 Z = true) (w3 : (Jvm.Cond.initialized y.cls).before a0 Z = true) (w4 : (Jvm.Cond.code y yb yml yrt).before a0 Z = true) (hy : y.cls ≠ "java/lang/invoke/MethodHandle" ∧ y.cls ≠ "java/lang/invoke/VarHandle") (hd : decode bs pc = .ok (.invokestatic idx, 3))
    (hM : Met1H l Z EL y yb yml yrt rm as h Qc) (eT : T.heap = h) {ps : List FieldType} {pr : Option FieldType} (hpd : parseMethodDescriptor y.desc = some ⟨ps, pr⟩) (hlen : argsL.length = ps.length) (hml : Ls.size = c.maxLocals) (hf : rm.frames + 1 ≤ R.frames) (W : Nat) (hW : (st.map fun v => v.category).sum = W) (hl : W + (yml + 11) + rm.locals ≤ R.locals) (hcl : cells + rm.cells ≤ R.cells) (hsl : slots + rm.slots ≤ R.slots) (pc' : Nat) (hp : pc + 3 = pc')
    (k : ∀ (T' : State) (L : List Loc) (v : Option Value) (vm1 : Vm), Stand p l e R (s.setVm vm1) m args below meth c T' (locs ++ L) (cells + rm.cells) (slots + rm.slots) → s.Since vm1 T'.heap.size → Z.Warmed39 (s.setVm vm1).vm → (s.setVm vm1).vm.findClass own = some m.cls → CHr Z EL v00 h00 vm1 T'.heap → Qc v T'.heap L → Go p e below G T' (mkF m pc' Ls (v.toList ++ st))) : Go p e below G T (mkF m pc Ls (argsL.reverse ++ st)) := by
  subst hp
  subst has
  have w4s : (Jvm.Cond.code y yb yml yrt).before args (s.setVm vm0) = true := mvT hZ w4
  obtain ⟨mk, hnm⟩ := Cond.code_named w4s
  obtain ⟨mm, cc, hmm, -, -, -, -, -, -, hsg⟩ := Cond.code_spec hnm w4s
  obtain ⟨v, vm₁, ⟨T1, L1, k1, n1⟩, -, X1, hS1, g1, ⟨Lc, hQ, l1, y1, z1, hC⟩, st1⟩ := X.staticBackS hx (y := y) hown (mvT hZ w1) (mvT hZ w2) (mvT hZ w3) hnm hmm hsg hy (backOfSH (W := W) (hM []) hZ w4 w3 hf hl hEL Rr.1) (g := mkF m pc Ls (argsL.reverse ++ st)) rfl hml (Steps.refl _) (argsL := argsL) (rest := st) (lenOf hpd hlen) rfl (by show 2 * 0 + _ ≤ _; omega) (hb hby hd) (fun _ _ => ⟨rfl, eT, hcl, hsl⟩)
  dsimp only [Pt.U, Pt.locs, Pt.cells, Pt.slots] at X1 l1 y1 z1 st1 hQ hS1 g1 hC
  subst l1 y1 z1
  obtain ⟨X2, hS2, hZ2, hown2⟩ := rebS hS (eT ▸ hk) X1 hS1 g1 hZ hown
  exact Go.by (fun t q => st1.trans q) (k T1 Lc v _ X2 hS2 hZ2 hown2 (Rr.trans hC) hQ)
/-- a String whose array isn't there yet is no booked constant's -/
theorem own_safeS {x : Addr} {vm : Vm} (hal : Z.vm.Alike vm) (E : Exa Z h x "java/lang/String") (F : Fld Z h x "java/lang/String" "value" "[B" .null) : Safe Z EL vm h x := fun B => by
  obtain ⟨pp, -, u, a, -, q, -, S, rfl | rfl⟩ := B
  · obtain ⟨cell, cf, kf, i, f, g1, g2, -, -, -, -, g7⟩ := F
    cases (show h[q.sa]? = some q.sC from S.ha).symm.trans g1
    obtain ⟨cS, ⟨⟨-, -, -, ⟨c1, k1, i1, f1, -⟩, -, -, -, v1, -⟩, -⟩, -⟩ := S
    have g2' : ({ Z with heap := h } : State).fieldFound? "java/lang/String" "value" "[B" = some (cf, kf, i, f) := g2
    obtain ⟨k3, e3, -⟩ := State.fieldFound?_setVm (s := ({ Z with heap := h } : State)) hal g2'
    have e4 := (show (Wst Z vm h).fieldFound? _ _ _ = _ from e3).symm.trans f1
    simp only [Option.some.injEq, Prod.mk.injEq] at e4
    rw [e4.2.2.2, v1] at g7
    cases g7
  · obtain ⟨cell, k, e1, e2, e3, -, -⟩ := E
    cases (show h[q.sd]? = some q.SA from S.hd).symm.trans e1
    obtain ⟨cS, -, -, f, -⟩ := S
    have f' : vm.findClass "[B" = some q.SA.cls := f
    rw [hal.findClass] at f'
    obtain ⟨k1, q1, q2⟩ := Vm.findClass_spec f'
    obtain ⟨k2, q3, q4⟩ := Vm.findClass_spec e2
    cases q1.symm.trans q3
    exact absurd (q2.symm.trans q4) (by decide)
end OwnHeld

theorem own_wS {Z : State} {a0 : Array Value} (hw : ∀ d ∈ tables_1, d.before a0 Z = true) : ∀ a ∈ Bundle.stringAtoms, a.before a0 Z = true := fun d hd => by
  simp only [Bundle.stringAtoms, List.mem_cons, List.not_mem_nil, or_false] at hd
  rcases hd with rfl | rfl | rfl | rfl | rfl | rfl | rfl
  · exact (hw _ (List.mem_of_getElem? (i := 8) rfl))
  · exact (hw _ (List.mem_of_getElem? (i := 7) rfl))
  · exact (hw _ (List.mem_of_getElem? (i := 21) rfl))
  · exact (hw _ (List.mem_of_getElem? (i := 22) rfl))
  · exact (hw _ (List.mem_of_getElem? (i := 23) rfl))
  · exact (hw _ (List.mem_of_getElem? (i := 24) rfl))
  · exact (hw _ (List.mem_of_getElem? (i := 25) rfl))
def own_EL : List (String × Nat) := [("com/example/operant/operant/HeaderFields", 66), ("java/lang/String", 7)]
theorem own_t1 : (∀ c ∈ "!#$%&'*+-.^_`|~".toList, c.toNat < 256) ∧ "!#$%&'*+-.^_`|~".toList.map (fun c => Value.int (Jvm.Lit.byteI c.toNat.toUInt16)) = [.int 33, .int 35, .int 36, .int 37, .int 38, .int 39, .int 42, .int 43, .int 45, .int 46, .int 94, .int 95, .int 96, .int 124, .int 126] := by decide +kernel
theorem own_t3 : 4 * "!#$%&'*+-.^_`|~".toList.length ≤ 60 := by decide +kernel
theorem own_e1 : (∀ c ∈ "".toList, c.toNat < 256) ∧ "".toList.map (fun c => Value.int (Jvm.Lit.byteI c.toNat.toUInt16)) = [] := by decide +kernel
theorem own_e3 : 4 * "".toList.length ≤ 0 := by decide +kernel
theorem own_hEL {Z : State} {a0 : Array Value} (hw : ∀ d ∈ tables_1, d.before a0 Z = true) : EW Z a0 own_EL := EW.cons (hw _ (List.mem_of_getElem? (i := 86) rfl)) own_t1.1 (EW.cons (hw _ (List.mem_of_getElem? (i := 20) rfl)) own_e1.1 EW.nil)
def own_litF (i : Nat) : Int32 := ([(33 : Int32), (35 : Int32), (36 : Int32), (37 : Int32), (38 : Int32), (39 : Int32), (42 : Int32), (43 : Int32), (45 : Int32), (46 : Int32), (94 : Int32), (95 : Int32), (96 : Int32), (124 : Int32), (126 : Int32)] : List Int32).getD i 0
theorem own_lit15 (i : Nat) (hi : i < 15) : ([.int 33, .int 35, .int 36, .int 37, .int 38, .int 39, .int 42, .int 43, .int 45, .int 46, .int 94, .int 95, .int 96, .int 124, .int 126] : List Value).getD i (.int 0) = .int (own_litF i) := by
  have q : i = 0 ∨ i = 1 ∨ i = 2 ∨ i = 3 ∨ i = 4 ∨ i = 5 ∨ i = 6 ∨ i = 7 ∨ i = 8 ∨ i = 9 ∨ i = 10 ∨ i = 11 ∨ i = 12 ∨ i = 13 ∨ i = 14 := by omega
  rcases q with rfl | rfl | rfl | rfl | rfl | rfl | rfl | rfl | rfl | rfl | rfl | rfl | rfl | rfl | rfl <;> rfl
theorem own_ncr (x : Int32) : 0 ≤ (nar .char x).toInt ∧ (nar .char x).toInt < 65536 := ⟨(c_i2c x).2.1, (c_i2c x).2.2⟩
theorem own_nce (x : Int32) (h : 0 ≤ x.toInt ∧ x.toInt < 65536) : nar .char x = x := by
  have q : ((nar .char x).toInt - x.toInt) % 65536 = 0 := (c_i2c x).1
  have r := own_ncr x
  rw [← Int32.toInt_inj]
  omega
theorem own_n2 (x : Int32) : nar .char (nar .char x) = nar .char x := own_nce _ (own_ncr x)
def own_lat (x : Int32) : Int32 := nar .char ((x &&& (255 : Int32)).toUInt32.toUInt16.toUInt32.toInt32)
def own_utf (x y : Int32) : Int32 := nar .char ((((x &&& (255 : Int32)) <<< ((0 : Int32) &&& 31)) ||| ((y &&& (255 : Int32)) <<< ((8 : Int32) &&& 31))).toUInt32.toUInt16.toUInt32.toInt32)
theorem own_latE (c : Int32) (hr : 0 ≤ c.toInt ∧ c.toInt < 65536) (hk : ¬ (255 : Int32) < c) : own_lat (nar .byte (c.toInt8.toInt32)) = c := by
  have hk' : c.toInt ≤ 255 := by
    rw [Int32.lt_iff_toInt_lt] at hk
    have q : (255 : Int32).toInt = 255 := rfl
    omega
  unfold own_lat
  have b1 := c_i2b c
  generalize c.toInt8.toInt32 = b at *
  have b2 : ((nar .byte b).toInt - b.toInt) % 256 = 0 ∧ -128 ≤ (nar .byte b).toInt ∧ (nar .byte b).toInt < 128 := c_i2b b
  generalize nar .byte b = d at *
  have m1 := c_mask d (255 : Int32) 8 (by decide) (by decide)
  generalize d &&& (255 : Int32) = f at *
  have i1 := c_i2c f
  generalize f.toUInt32.toUInt16.toUInt32.toInt32 = k at *
  rw [own_nce k ⟨i1.2.1, i1.2.2⟩, ← Int32.toInt_inj]
  omega
theorem own_utfE (c : Int32) (hr : 0 ≤ c.toInt ∧ c.toInt < 65536) : own_utf (nar .byte ((c >>> ((0 : Int32) &&& 31)).toInt8.toInt32)) (nar .byte ((c >>> ((8 : Int32) &&& 31)).toInt8.toInt32)) = c := by
  unfold own_utf
  have s0 := c_ishr c (0 : Int32) 0 (by decide)
  have s8 := c_ishr c (8 : Int32) 8 (by decide)
  generalize c >>> ((0 : Int32) &&& 31) = u at *
  generalize c >>> ((8 : Int32) &&& 31) = w at *
  have b0 := c_i2b u
  have b8 := c_i2b w
  generalize u.toInt8.toInt32 = u1 at *
  generalize w.toInt8.toInt32 = w1 at *
  have d0 : ((nar .byte u1).toInt - u1.toInt) % 256 = 0 ∧ -128 ≤ (nar .byte u1).toInt ∧ (nar .byte u1).toInt < 128 := c_i2b u1
  have d8 : ((nar .byte w1).toInt - w1.toInt) % 256 = 0 ∧ -128 ≤ (nar .byte w1).toInt ∧ (nar .byte w1).toInt < 128 := c_i2b w1
  generalize nar .byte u1 = u2 at *
  generalize nar .byte w1 = w2 at *
  have m0 := c_mask u2 (255 : Int32) 8 (by decide) (by decide)
  have m8 := c_mask w2 (255 : Int32) 8 (by decide) (by decide)
  generalize u2 &&& (255 : Int32) = x at *
  generalize w2 &&& (255 : Int32) = y at *
  have l0 := c_ishl x (0 : Int32) 0 (by decide)
  have l8 := c_ishl y (8 : Int32) 8 (by decide)
  have r0 := rng32 (x <<< ((0 : Int32) &&& 31))
  have r8 := rng32 (y <<< ((8 : Int32) &&& 31))
  generalize x <<< ((0 : Int32) &&& 31) = X at *
  generalize y <<< ((8 : Int32) &&& 31) = Y at *
  have hX : X.toInt = x.toInt := by omega
  have hY : Y.toInt = 256 * y.toInt := by omega
  have o := c_or' X Y 8 (by decide) 256 (by decide) (by omega) (by omega) (by omega)
  have ro := rng32 (X ||| Y)
  generalize X ||| Y = O at *
  have hO : O.toInt = x.toInt + 256 * y.toInt := by omega
  have i1 := c_i2c O
  generalize O.toUInt32.toUInt16.toUInt32.toInt32 = k at *
  rw [own_nce k ⟨i1.2.1, i1.2.2⟩, ← Int32.toInt_inj]
  omega
theorem own_gt {g : Nat → Int32} {i0 i1 : Nat} {c : Int32} (h0 : g i0 = nar .byte ((c >>> ((0 : Int32) &&& 31)).toInt8.toInt32)) (h1 : g i1 = nar .byte ((c >>> ((8 : Int32) &&& 31)).toInt8.toInt32)) (hr : 0 ≤ c.toInt ∧ c.toInt < 65536) (hk : (255 : Int32) < c) : (255 : Int32) < own_utf (g i0) (g i1) := by
  rw [h0, h1, own_utfE c hr]
  exact hk
/-- the String's two forms: one byte a sign, or two -/
def own_str (nn : Nat) (cc : Nat → Int32) (cd : Int32) (nb : Nat) (gg : Nat → Int32) : Prop := (cd = 0 ∧ nb = nn ∧ ∀ i, i < nn → own_lat (gg i) = cc i) ∨ (cd = 1 ∧ nb = 2 * nn ∧ ∀ i, i < nn → own_utf (gg (2 * i)) (gg (2 * i + 1)) = cc i)
theorem own_len {nn : Nat} {cc : Nat → Int32} {cd : Int32} {nb : Nat} {gg : Nat → Int32} (h : own_str nn cc cd nb gg) (hn : nn ≤ 4) : ((Nat.toInt32 nb) >>> ((nar .byte cd) &&& 31)) = Nat.toInt32 nn := by
  rcases h with ⟨rfl, h, -⟩ | ⟨rfl, h, -⟩
  · rw [h]
    exact (by decide +kernel : ∀ n, n < 5 → ((Nat.toInt32 n) >>> ((nar .byte (0 : Int32)) &&& 31)) = Nat.toInt32 n) nn (by omega)
  · rw [h]
    exact (by decide +kernel : ∀ n, n < 5 → ((Nat.toInt32 (2 * n)) >>> ((nar .byte (1 : Int32)) &&& 31)) = Nat.toInt32 n) nn (by omega)
theorem own_ne {nn : Nat} {cc : Nat → Int32} {cd : Int32} {nb : Nat} {gg : Nat → Int32} (h : own_str nn cc cd nb gg) (h1 : 1 ≤ nn) (hn : nn ≤ 4) : ¬ (Nat.toInt32 nb) = (0 : Int32) := by
  rcases h with ⟨-, h, -⟩ | ⟨-, h, -⟩
  · rw [h]
    exact (by decide +kernel : ∀ n, n < 5 → 1 ≤ n → ¬ (Nat.toInt32 n) = (0 : Int32)) nn (by omega) h1
  · rw [h]
    exact (by decide +kernel : ∀ n, n < 5 → 1 ≤ n → ¬ (Nat.toInt32 (2 * n)) = (0 : Int32)) nn (by omega) h1
theorem own_lt0 {nn : Nat} (hn : nn ≤ 4) (h : (0 : Int32) < (Nat.toInt32 nn)) : 0 < nn := (by decide +kernel : ∀ n, n < 5 → (0 : Int32) < (Nat.toInt32 n) → 0 < n) nn (by omega) h
theorem own_ge0 {nn : Nat} (hn : nn ≤ 4) (h : ¬ (0 : Int32) < (Nat.toInt32 nn)) : nn ≤ 0 := (by decide +kernel : ∀ n, n < 5 → ¬ (0 : Int32) < (Nat.toInt32 n) → n ≤ 0) nn (by omega) h
theorem own_lt1 {nn : Nat} (hn : nn ≤ 4) (h : (1 : Int32) < (Nat.toInt32 nn)) : 1 < nn := (by decide +kernel : ∀ n, n < 5 → (1 : Int32) < (Nat.toInt32 n) → 1 < n) nn (by omega) h
theorem own_ge1 {nn : Nat} (hn : nn ≤ 4) (h : ¬ (1 : Int32) < (Nat.toInt32 nn)) : nn ≤ 1 := (by decide +kernel : ∀ n, n < 5 → ¬ (1 : Int32) < (Nat.toInt32 n) → n ≤ 1) nn (by omega) h
theorem own_lt2 {nn : Nat} (hn : nn ≤ 4) (h : (2 : Int32) < (Nat.toInt32 nn)) : 2 < nn := (by decide +kernel : ∀ n, n < 5 → (2 : Int32) < (Nat.toInt32 n) → 2 < n) nn (by omega) h
theorem own_ge2 {nn : Nat} (hn : nn ≤ 4) (h : ¬ (2 : Int32) < (Nat.toInt32 nn)) : nn ≤ 2 := (by decide +kernel : ∀ n, n < 5 → ¬ (2 : Int32) < (Nat.toInt32 n) → n ≤ 2) nn (by omega) h
theorem own_lt3 {nn : Nat} (hn : nn ≤ 4) (h : (3 : Int32) < (Nat.toInt32 nn)) : 3 < nn := (by decide +kernel : ∀ n, n < 5 → (3 : Int32) < (Nat.toInt32 n) → 3 < n) nn (by omega) h
theorem own_ge3 {nn : Nat} (hn : nn ≤ 4) (h : ¬ (3 : Int32) < (Nat.toInt32 nn)) : nn ≤ 3 := (by decide +kernel : ∀ n, n < 5 → ¬ (3 : Int32) < (Nat.toInt32 n) → n ≤ 3) nn (by omega) h
theorem own_ge4 {nn : Nat} (hn : nn ≤ 4) (h : ¬ (4 : Int32) < (Nat.toInt32 nn)) : nn ≤ 4 := (by decide +kernel : ∀ n, n < 5 → ¬ (4 : Int32) < (Nat.toInt32 n) → n ≤ 4) nn (by omega) h
theorem own_no4 {nn : Nat} (hn : nn ≤ 4) : ¬ (4 : Int32) < (Nat.toInt32 nn) := (by decide +kernel : ∀ n, n < 5 → ¬ (4 : Int32) < (Nat.toInt32 n)) nn (by omega)
theorem own_j0 {nn : Nat} (hn : nn ≤ 4) (h : 0 < nn) : (0 : Int32) < (Nat.toInt32 nn) := (by decide +kernel : ∀ n, n < 5 → 0 < n → (0 : Int32) < (Nat.toInt32 n)) nn (by omega) h
theorem own_u0 {nn : Nat} (hn : nn ≤ 4) (h : 0 < nn) : (0 : Int32) < ((Nat.toInt32 (2 * nn)) >>> ((1 : Int32) &&& 31)) := (by decide +kernel : ∀ n, n < 5 → 0 < n → (0 : Int32) < ((Nat.toInt32 (2 * n)) >>> ((1 : Int32) &&& 31))) nn (by omega) h
theorem own_b0 {nn : Nat} (hn : nn ≤ 4) (h : 0 < nn) : ¬ ((0 : Int32) < 0 ∨ nn ≤ Int32.toNatClampNeg (0 : Int32)) := (by decide +kernel : ∀ n, n < 5 → 0 < n → ¬ ((0 : Int32) < 0 ∨ n ≤ Int32.toNatClampNeg (0 : Int32))) nn (by omega) h
theorem own_b0_0 {nn : Nat} (hn : nn ≤ 4) (h : 0 < nn) : ¬ ((0 : Int32) < 0 ∨ 2 * nn ≤ Int32.toNatClampNeg (0 : Int32)) := (by decide +kernel : ∀ n, n < 5 → 0 < n → ¬ ((0 : Int32) < 0 ∨ 2 * n ≤ Int32.toNatClampNeg (0 : Int32))) nn (by omega) h
theorem own_b1_0 {nn : Nat} (hn : nn ≤ 4) (h : 0 < nn) : ¬ ((1 : Int32) < 0 ∨ 2 * nn ≤ Int32.toNatClampNeg (1 : Int32)) := (by decide +kernel : ∀ n, n < 5 → 0 < n → ¬ ((1 : Int32) < 0 ∨ 2 * n ≤ Int32.toNatClampNeg (1 : Int32))) nn (by omega) h
theorem own_j1 {nn : Nat} (hn : nn ≤ 4) (h : 1 < nn) : (1 : Int32) < (Nat.toInt32 nn) := (by decide +kernel : ∀ n, n < 5 → 1 < n → (1 : Int32) < (Nat.toInt32 n)) nn (by omega) h
theorem own_u1 {nn : Nat} (hn : nn ≤ 4) (h : 1 < nn) : (1 : Int32) < ((Nat.toInt32 (2 * nn)) >>> ((1 : Int32) &&& 31)) := (by decide +kernel : ∀ n, n < 5 → 1 < n → (1 : Int32) < ((Nat.toInt32 (2 * n)) >>> ((1 : Int32) &&& 31))) nn (by omega) h
theorem own_b1 {nn : Nat} (hn : nn ≤ 4) (h : 1 < nn) : ¬ ((1 : Int32) < 0 ∨ nn ≤ Int32.toNatClampNeg (1 : Int32)) := (by decide +kernel : ∀ n, n < 5 → 1 < n → ¬ ((1 : Int32) < 0 ∨ n ≤ Int32.toNatClampNeg (1 : Int32))) nn (by omega) h
theorem own_b0_1 {nn : Nat} (hn : nn ≤ 4) (h : 1 < nn) : ¬ ((2 : Int32) < 0 ∨ 2 * nn ≤ Int32.toNatClampNeg (2 : Int32)) := (by decide +kernel : ∀ n, n < 5 → 1 < n → ¬ ((2 : Int32) < 0 ∨ 2 * n ≤ Int32.toNatClampNeg (2 : Int32))) nn (by omega) h
theorem own_b1_1 {nn : Nat} (hn : nn ≤ 4) (h : 1 < nn) : ¬ ((3 : Int32) < 0 ∨ 2 * nn ≤ Int32.toNatClampNeg (3 : Int32)) := (by decide +kernel : ∀ n, n < 5 → 1 < n → ¬ ((3 : Int32) < 0 ∨ 2 * n ≤ Int32.toNatClampNeg (3 : Int32))) nn (by omega) h
theorem own_j2 {nn : Nat} (hn : nn ≤ 4) (h : 2 < nn) : (2 : Int32) < (Nat.toInt32 nn) := (by decide +kernel : ∀ n, n < 5 → 2 < n → (2 : Int32) < (Nat.toInt32 n)) nn (by omega) h
theorem own_u2 {nn : Nat} (hn : nn ≤ 4) (h : 2 < nn) : (2 : Int32) < ((Nat.toInt32 (2 * nn)) >>> ((1 : Int32) &&& 31)) := (by decide +kernel : ∀ n, n < 5 → 2 < n → (2 : Int32) < ((Nat.toInt32 (2 * n)) >>> ((1 : Int32) &&& 31))) nn (by omega) h
theorem own_b2 {nn : Nat} (hn : nn ≤ 4) (h : 2 < nn) : ¬ ((2 : Int32) < 0 ∨ nn ≤ Int32.toNatClampNeg (2 : Int32)) := (by decide +kernel : ∀ n, n < 5 → 2 < n → ¬ ((2 : Int32) < 0 ∨ n ≤ Int32.toNatClampNeg (2 : Int32))) nn (by omega) h
theorem own_b0_2 {nn : Nat} (hn : nn ≤ 4) (h : 2 < nn) : ¬ ((4 : Int32) < 0 ∨ 2 * nn ≤ Int32.toNatClampNeg (4 : Int32)) := (by decide +kernel : ∀ n, n < 5 → 2 < n → ¬ ((4 : Int32) < 0 ∨ 2 * n ≤ Int32.toNatClampNeg (4 : Int32))) nn (by omega) h
theorem own_b1_2 {nn : Nat} (hn : nn ≤ 4) (h : 2 < nn) : ¬ ((5 : Int32) < 0 ∨ 2 * nn ≤ Int32.toNatClampNeg (5 : Int32)) := (by decide +kernel : ∀ n, n < 5 → 2 < n → ¬ ((5 : Int32) < 0 ∨ 2 * n ≤ Int32.toNatClampNeg (5 : Int32))) nn (by omega) h
theorem own_j3 {nn : Nat} (hn : nn ≤ 4) (h : 3 < nn) : (3 : Int32) < (Nat.toInt32 nn) := (by decide +kernel : ∀ n, n < 5 → 3 < n → (3 : Int32) < (Nat.toInt32 n)) nn (by omega) h
theorem own_u3 {nn : Nat} (hn : nn ≤ 4) (h : 3 < nn) : (3 : Int32) < ((Nat.toInt32 (2 * nn)) >>> ((1 : Int32) &&& 31)) := (by decide +kernel : ∀ n, n < 5 → 3 < n → (3 : Int32) < ((Nat.toInt32 (2 * n)) >>> ((1 : Int32) &&& 31))) nn (by omega) h
theorem own_b3 {nn : Nat} (hn : nn ≤ 4) (h : 3 < nn) : ¬ ((3 : Int32) < 0 ∨ nn ≤ Int32.toNatClampNeg (3 : Int32)) := (by decide +kernel : ∀ n, n < 5 → 3 < n → ¬ ((3 : Int32) < 0 ∨ n ≤ Int32.toNatClampNeg (3 : Int32))) nn (by omega) h
theorem own_b0_3 {nn : Nat} (hn : nn ≤ 4) (h : 3 < nn) : ¬ ((6 : Int32) < 0 ∨ 2 * nn ≤ Int32.toNatClampNeg (6 : Int32)) := (by decide +kernel : ∀ n, n < 5 → 3 < n → ¬ ((6 : Int32) < 0 ∨ 2 * n ≤ Int32.toNatClampNeg (6 : Int32))) nn (by omega) h
theorem own_b1_3 {nn : Nat} (hn : nn ≤ 4) (h : 3 < nn) : ¬ ((7 : Int32) < 0 ∨ 2 * nn ≤ Int32.toNatClampNeg (7 : Int32)) := (by decide +kernel : ∀ n, n < 5 → 3 < n → ¬ ((7 : Int32) < 0 ∨ 2 * n ≤ Int32.toNatClampNeg (7 : Int32))) nn (by omega) h
theorem own_all1 {P : Nat → Prop} (h0 : P 0) : ∀ i, i < 1 → P i := fun i hi => by
  have q : i = 0 := by omega
  subst q
  · exact h0
theorem own_all2 {P : Nat → Prop} (h0 : P 0) (h1 : P 1) : ∀ i, i < 2 → P i := fun i hi => by
  have q : i = 0 ∨ i = 1 := by omega
  rcases q with rfl | rfl
  · exact h0
  · exact h1
theorem own_all3 {P : Nat → Prop} (h0 : P 0) (h1 : P 1) (h2 : P 2) : ∀ i, i < 3 → P i := fun i hi => by
  have q : i = 0 ∨ i = 1 ∨ i = 2 := by omega
  rcases q with rfl | rfl | rfl
  · exact h0
  · exact h1
  · exact h2
theorem own_all4 {P : Nat → Prop} (h0 : P 0) (h1 : P 1) (h2 : P 2) (h3 : P 3) : ∀ i, i < 4 → P i := fun i hi => by
  have q : i = 0 ∨ i = 1 ∨ i = 2 ∨ i = 3 := by omega
  rcases q with rfl | rfl | rfl | rfl
  · exact h0
  · exact h1
  · exact h2
  · exact h3
theorem ef_1 (p1 : Int32) (m : MethodId) : entryFrame m #[(.int p1)] 1 = mkF m 0 #[.val (.int p1)] [] := by first | (simp [entryFrame, mkF, argsToLocals, Value.category]; done) | rfl
def f1 (p1 : Int32) : Int32 := (if (p1 &&& (65536 : Int32)) = (0 : Int32) then (nar .char ((p1 &&& (127 : Int32)).toUInt32.toUInt16.toUInt32.toInt32)) else (nar .char ((p1 &&& (65535 : Int32)).toUInt32.toUInt16.toUInt32.toInt32)))
def Q1 (Z : State) (p1 : Int32) (h0 : Heap) (n0 : Nat) (v : Option Value) (h : Heap) (L : List Loc) : Prop := v = some (.int (f1 p1)) ∧ Fr n0 L ∧ h = h0
set_option maxRecDepth 65536 in
set_option maxHeartbeats 40000000 in
theorem rm1 (l : Launch) (Z : State) (a0 : Array Value) (hw : ∀ d ∈ tables_1, d.before a0 Z = true) (p1 : Int32) (h0 : Heap) (n0 : Nat) (Zs : n0 ≤ h0.size) :
    Met1 l Z (⟨"com/example/operant/operant/HeaderFieldsIsTokenPinLaw", "draw", "(I)C"⟩ : MethodName) method_3_code 1 (some .char) ({ frames := 0, cells := 0, slots := 0, locals := 0 } : Room) #[(.int p1)] h0 (Q1 Z p1 h0 n0) := by
  refine own_met_of (plainFor_of_name pn_1) (ef_1 p1) ?_
  intro p e s m below meth c s₁ X hx hby hml hZ hown hnm hret hlk eT
  have hown : s.vm.findClass "com/example/operant/operant/HeaderFieldsIsTokenPinLaw" = some m.cls := hown
  have N := Fr.nil n0
  refine own_iloadN X hx hby p1 d1_0 rfl 1 rfl ?_
  refine own_ldc X hx hby hZ (65536 : Int32) hown (hw _ (List.mem_of_getElem? (i := 5) rfl)) d1_1 3 rfl ?_
  refine own_iand X hx hby d1_3 4 rfl ?_
  refine own_if_eq X hx hby d1_4 13 7 (by decide) rfl (fun c4 => ?_) (fun c4 => ?_)
  · skip
    refine own_iloadN X hx hby p1 d1_13 rfl 14 rfl ?_
    refine own_bipush X hx hby (127 : Int32) d1_14 rfl 16 rfl ?_
    refine own_iand X hx hby d1_16 17 rfl ?_
    refine own_i2c X hx hby d1_17 18 rfl ?_
    refine own_retN X hx hby hret hlk (t := .char) (z' := (nar .char ((p1 &&& (127 : Int32)).toUInt32.toUInt16.toUInt32.toInt32))) (by simp) d1_18 (by decide) (by decide) rfl ?_
    rw [eT]
    exact ⟨congrArg (fun z => some (Value.int z)) (by unfold f1; rw [if_pos c4]), N, rfl⟩
  · skip
    refine own_iloadN X hx hby p1 d1_7 rfl 8 rfl ?_
    refine own_ldc X hx hby hZ (65535 : Int32) hown (hw _ (List.mem_of_getElem? (i := 114) rfl)) d1_8 10 rfl ?_
    refine own_iand X hx hby d1_10 11 rfl ?_
    refine own_i2c X hx hby d1_11 12 rfl ?_
    refine own_retN X hx hby hret hlk (t := .char) (z' := (nar .char ((p1 &&& (65535 : Int32)).toUInt32.toUInt16.toUInt32.toInt32))) (by simp) d1_12 (by decide) (by decide) rfl ?_
    rw [eT]
    exact ⟨congrArg (fun z => some (Value.int z)) (by unfold f1; rw [if_neg c4]), N, rfl⟩
theorem ef_18 (p1 : Int32) (m : MethodId) : entryFrame m #[(.int p1)] 1 = mkF m 0 #[.val (.int p1)] [] := by first | (simp [entryFrame, mkF, argsToLocals, Value.category]; done) | rfl
def f18 (p1 : Int32) : Int32 := (if p1 < (97 : Int32) then (if p1 < (65 : Int32) then (if p1 < (48 : Int32) then (0 : Int32) else (if (57 : Int32) < p1 then (0 : Int32) else (1 : Int32))) else (if (90 : Int32) < p1 then (if p1 < (48 : Int32) then (0 : Int32) else (if (57 : Int32) < p1 then (0 : Int32) else (1 : Int32))) else (1 : Int32))) else (if (122 : Int32) < p1 then (if p1 < (65 : Int32) then (if p1 < (48 : Int32) then (0 : Int32) else (if (57 : Int32) < p1 then (0 : Int32) else (1 : Int32))) else (if (90 : Int32) < p1 then (if p1 < (48 : Int32) then (0 : Int32) else (if (57 : Int32) < p1 then (0 : Int32) else (1 : Int32))) else (1 : Int32))) else (1 : Int32)))
def Q18 (Z : State) (p1 : Int32) (h0 : Heap) (n0 : Nat) (v : Option Value) (h : Heap) (L : List Loc) : Prop := v = some (.int (f18 p1)) ∧ Fr n0 L ∧ h = h0
set_option maxRecDepth 65536 in
set_option maxHeartbeats 40000000 in
theorem rm18 (l : Launch) (Z : State) (a0 : Array Value) (hw : ∀ d ∈ tables_1, d.before a0 Z = true) (p1 : Int32) (h0 : Heap) (n0 : Nat) (Zs : n0 ≤ h0.size) :
    Met1 l Z (⟨"com/example/operant/operant/HeaderFields", "isLetterOrDigit", "(C)Z"⟩ : MethodName) prog_3_method_6_code 1 (some .boolean) ({ frames := 0, cells := 0, slots := 0, locals := 0 } : Room) #[(.int p1)] h0 (Q18 Z p1 h0 n0) := by
  refine own_met_of (plainFor_of_name pn_18) (ef_18 p1) ?_
  intro p e s m below meth c s₁ X hx hby hml hZ hown hnm hret hlk eT
  have hown : s.vm.findClass "com/example/operant/operant/HeaderFields" = some m.cls := hown
  have N := Fr.nil n0
  refine own_iloadN X hx hby p1 d18_0 rfl 1 rfl ?_
  refine own_bipush X hx hby (97 : Int32) d18_1 rfl 3 rfl ?_
  refine own_icmp_lt X hx hby d18_3 12 6 (by decide) rfl (fun c3 => ?_) (fun c3 => ?_)
  · skip
    refine own_iloadN X hx hby p1 d18_12 rfl 13 rfl ?_
    refine own_bipush X hx hby (65 : Int32) d18_13 rfl 15 rfl ?_
    refine own_icmp_lt X hx hby d18_15 24 18 (by decide) rfl (fun c15 => ?_) (fun c15 => ?_)
    · skip
      refine own_iloadN X hx hby p1 d18_24 rfl 25 rfl ?_
      refine own_bipush X hx hby (48 : Int32) d18_25 rfl 27 rfl ?_
      refine own_icmp_lt X hx hby d18_27 40 30 (by decide) rfl (fun c27 => ?_) (fun c27 => ?_)
      · skip
        refine own_iconst X hx hby (0 : Int32) d18_40 rfl 41 rfl ?_
        refine own_retN X hx hby hret hlk (t := .boolean) (z' := (0 : Int32)) (by simp) d18_41 (by decide) (by decide) rfl ?_
        rw [eT]
        exact ⟨congrArg (fun z => some (Value.int z)) (by unfold f18; rw [if_pos c3, if_pos c15, if_pos c27]), N, rfl⟩
      · skip
        refine own_iloadN X hx hby p1 d18_30 rfl 31 rfl ?_
        refine own_bipush X hx hby (57 : Int32) d18_31 rfl 33 rfl ?_
        refine own_icmp_gt X hx hby d18_33 40 36 (by decide) rfl (fun c33 => ?_) (fun c33 => ?_)
        · skip
          refine own_iconst X hx hby (0 : Int32) d18_40 rfl 41 rfl ?_
          refine own_retN X hx hby hret hlk (t := .boolean) (z' := (0 : Int32)) (by simp) d18_41 (by decide) (by decide) rfl ?_
          rw [eT]
          exact ⟨congrArg (fun z => some (Value.int z)) (by unfold f18; rw [if_pos c3, if_pos c15, if_neg c27, if_pos c33]), N, rfl⟩
        · skip
          refine own_iconst X hx hby (1 : Int32) d18_36 rfl 37 rfl ?_
          refine own_goto X hx hby d18_37 41 (by decide) ?_
          refine own_retN X hx hby hret hlk (t := .boolean) (z' := (1 : Int32)) (by simp) d18_41 (by decide) (by decide) rfl ?_
          rw [eT]
          exact ⟨congrArg (fun z => some (Value.int z)) (by unfold f18; rw [if_pos c3, if_pos c15, if_neg c27, if_neg c33]), N, rfl⟩
    · skip
      refine own_iloadN X hx hby p1 d18_18 rfl 19 rfl ?_
      refine own_bipush X hx hby (90 : Int32) d18_19 rfl 21 rfl ?_
      refine own_icmp_le X hx hby d18_21 36 24 (by decide) rfl (fun c21 => ?_) (fun c21 => ?_)
      · skip
        refine own_iconst X hx hby (1 : Int32) d18_36 rfl 37 rfl ?_
        refine own_goto X hx hby d18_37 41 (by decide) ?_
        refine own_retN X hx hby hret hlk (t := .boolean) (z' := (1 : Int32)) (by simp) d18_41 (by decide) (by decide) rfl ?_
        rw [eT]
        exact ⟨congrArg (fun z => some (Value.int z)) (by unfold f18; rw [if_pos c3, if_neg c15, if_neg c21]), N, rfl⟩
      · skip
        refine own_iloadN X hx hby p1 d18_24 rfl 25 rfl ?_
        refine own_bipush X hx hby (48 : Int32) d18_25 rfl 27 rfl ?_
        refine own_icmp_lt X hx hby d18_27 40 30 (by decide) rfl (fun c27 => ?_) (fun c27 => ?_)
        · skip
          refine own_iconst X hx hby (0 : Int32) d18_40 rfl 41 rfl ?_
          refine own_retN X hx hby hret hlk (t := .boolean) (z' := (0 : Int32)) (by simp) d18_41 (by decide) (by decide) rfl ?_
          rw [eT]
          exact ⟨congrArg (fun z => some (Value.int z)) (by unfold f18; rw [if_pos c3, if_neg c15, if_pos c21, if_pos c27]), N, rfl⟩
        · skip
          refine own_iloadN X hx hby p1 d18_30 rfl 31 rfl ?_
          refine own_bipush X hx hby (57 : Int32) d18_31 rfl 33 rfl ?_
          refine own_icmp_gt X hx hby d18_33 40 36 (by decide) rfl (fun c33 => ?_) (fun c33 => ?_)
          · skip
            refine own_iconst X hx hby (0 : Int32) d18_40 rfl 41 rfl ?_
            refine own_retN X hx hby hret hlk (t := .boolean) (z' := (0 : Int32)) (by simp) d18_41 (by decide) (by decide) rfl ?_
            rw [eT]
            exact ⟨congrArg (fun z => some (Value.int z)) (by unfold f18; rw [if_pos c3, if_neg c15, if_pos c21, if_neg c27, if_pos c33]), N, rfl⟩
          · skip
            refine own_iconst X hx hby (1 : Int32) d18_36 rfl 37 rfl ?_
            refine own_goto X hx hby d18_37 41 (by decide) ?_
            refine own_retN X hx hby hret hlk (t := .boolean) (z' := (1 : Int32)) (by simp) d18_41 (by decide) (by decide) rfl ?_
            rw [eT]
            exact ⟨congrArg (fun z => some (Value.int z)) (by unfold f18; rw [if_pos c3, if_neg c15, if_pos c21, if_neg c27, if_neg c33]), N, rfl⟩
  · skip
    refine own_iloadN X hx hby p1 d18_6 rfl 7 rfl ?_
    refine own_bipush X hx hby (122 : Int32) d18_7 rfl 9 rfl ?_
    refine own_icmp_le X hx hby d18_9 36 12 (by decide) rfl (fun c9 => ?_) (fun c9 => ?_)
    · skip
      refine own_iconst X hx hby (1 : Int32) d18_36 rfl 37 rfl ?_
      refine own_goto X hx hby d18_37 41 (by decide) ?_
      refine own_retN X hx hby hret hlk (t := .boolean) (z' := (1 : Int32)) (by simp) d18_41 (by decide) (by decide) rfl ?_
      rw [eT]
      exact ⟨congrArg (fun z => some (Value.int z)) (by unfold f18; rw [if_neg c3, if_neg c9]), N, rfl⟩
    · skip
      refine own_iloadN X hx hby p1 d18_12 rfl 13 rfl ?_
      refine own_bipush X hx hby (65 : Int32) d18_13 rfl 15 rfl ?_
      refine own_icmp_lt X hx hby d18_15 24 18 (by decide) rfl (fun c15 => ?_) (fun c15 => ?_)
      · skip
        refine own_iloadN X hx hby p1 d18_24 rfl 25 rfl ?_
        refine own_bipush X hx hby (48 : Int32) d18_25 rfl 27 rfl ?_
        refine own_icmp_lt X hx hby d18_27 40 30 (by decide) rfl (fun c27 => ?_) (fun c27 => ?_)
        · skip
          refine own_iconst X hx hby (0 : Int32) d18_40 rfl 41 rfl ?_
          refine own_retN X hx hby hret hlk (t := .boolean) (z' := (0 : Int32)) (by simp) d18_41 (by decide) (by decide) rfl ?_
          rw [eT]
          exact ⟨congrArg (fun z => some (Value.int z)) (by unfold f18; rw [if_neg c3, if_pos c9, if_pos c15, if_pos c27]), N, rfl⟩
        · skip
          refine own_iloadN X hx hby p1 d18_30 rfl 31 rfl ?_
          refine own_bipush X hx hby (57 : Int32) d18_31 rfl 33 rfl ?_
          refine own_icmp_gt X hx hby d18_33 40 36 (by decide) rfl (fun c33 => ?_) (fun c33 => ?_)
          · skip
            refine own_iconst X hx hby (0 : Int32) d18_40 rfl 41 rfl ?_
            refine own_retN X hx hby hret hlk (t := .boolean) (z' := (0 : Int32)) (by simp) d18_41 (by decide) (by decide) rfl ?_
            rw [eT]
            exact ⟨congrArg (fun z => some (Value.int z)) (by unfold f18; rw [if_neg c3, if_pos c9, if_pos c15, if_neg c27, if_pos c33]), N, rfl⟩
          · skip
            refine own_iconst X hx hby (1 : Int32) d18_36 rfl 37 rfl ?_
            refine own_goto X hx hby d18_37 41 (by decide) ?_
            refine own_retN X hx hby hret hlk (t := .boolean) (z' := (1 : Int32)) (by simp) d18_41 (by decide) (by decide) rfl ?_
            rw [eT]
            exact ⟨congrArg (fun z => some (Value.int z)) (by unfold f18; rw [if_neg c3, if_pos c9, if_pos c15, if_neg c27, if_neg c33]), N, rfl⟩
      · skip
        refine own_iloadN X hx hby p1 d18_18 rfl 19 rfl ?_
        refine own_bipush X hx hby (90 : Int32) d18_19 rfl 21 rfl ?_
        refine own_icmp_le X hx hby d18_21 36 24 (by decide) rfl (fun c21 => ?_) (fun c21 => ?_)
        · skip
          refine own_iconst X hx hby (1 : Int32) d18_36 rfl 37 rfl ?_
          refine own_goto X hx hby d18_37 41 (by decide) ?_
          refine own_retN X hx hby hret hlk (t := .boolean) (z' := (1 : Int32)) (by simp) d18_41 (by decide) (by decide) rfl ?_
          rw [eT]
          exact ⟨congrArg (fun z => some (Value.int z)) (by unfold f18; rw [if_neg c3, if_pos c9, if_neg c15, if_neg c21]), N, rfl⟩
        · skip
          refine own_iloadN X hx hby p1 d18_24 rfl 25 rfl ?_
          refine own_bipush X hx hby (48 : Int32) d18_25 rfl 27 rfl ?_
          refine own_icmp_lt X hx hby d18_27 40 30 (by decide) rfl (fun c27 => ?_) (fun c27 => ?_)
          · skip
            refine own_iconst X hx hby (0 : Int32) d18_40 rfl 41 rfl ?_
            refine own_retN X hx hby hret hlk (t := .boolean) (z' := (0 : Int32)) (by simp) d18_41 (by decide) (by decide) rfl ?_
            rw [eT]
            exact ⟨congrArg (fun z => some (Value.int z)) (by unfold f18; rw [if_neg c3, if_pos c9, if_neg c15, if_pos c21, if_pos c27]), N, rfl⟩
          · skip
            refine own_iloadN X hx hby p1 d18_30 rfl 31 rfl ?_
            refine own_bipush X hx hby (57 : Int32) d18_31 rfl 33 rfl ?_
            refine own_icmp_gt X hx hby d18_33 40 36 (by decide) rfl (fun c33 => ?_) (fun c33 => ?_)
            · skip
              refine own_iconst X hx hby (0 : Int32) d18_40 rfl 41 rfl ?_
              refine own_retN X hx hby hret hlk (t := .boolean) (z' := (0 : Int32)) (by simp) d18_41 (by decide) (by decide) rfl ?_
              rw [eT]
              exact ⟨congrArg (fun z => some (Value.int z)) (by unfold f18; rw [if_neg c3, if_pos c9, if_neg c15, if_pos c21, if_neg c27, if_pos c33]), N, rfl⟩
            · skip
              refine own_iconst X hx hby (1 : Int32) d18_36 rfl 37 rfl ?_
              refine own_goto X hx hby d18_37 41 (by decide) ?_
              refine own_retN X hx hby hret hlk (t := .boolean) (z' := (1 : Int32)) (by simp) d18_41 (by decide) (by decide) rfl ?_
              rw [eT]
              exact ⟨congrArg (fun z => some (Value.int z)) (by unfold f18; rw [if_neg c3, if_pos c9, if_neg c15, if_pos c21, if_neg c27, if_neg c33]), N, rfl⟩
theorem ef_22 (p1 : Int32) (m : MethodId) : entryFrame m #[(.int p1)] 1 = mkF m 0 #[.val (.int p1)] [] := by first | (simp [entryFrame, mkF, argsToLocals, Value.category]; done) | rfl
def f22 (p1 : Int32) : Int32 := (if p1 < (0 : Int32) then (0 : Int32) else (if (255 : Int32) < p1 then (0 : Int32) else (1 : Int32)))
def Q22 (Z : State) (p1 : Int32) (h0 : Heap) (n0 : Nat) (v : Option Value) (h : Heap) (L : List Loc) : Prop := v = some (.int (f22 p1)) ∧ Fr n0 L ∧ h = h0
set_option maxRecDepth 65536 in
set_option maxHeartbeats 40000000 in
theorem rm22 (l : Launch) (Z : State) (a0 : Array Value) (hw : ∀ d ∈ tables_1, d.before a0 Z = true) (p1 : Int32) (h0 : Heap) (n0 : Nat) (Zs : n0 ≤ h0.size) :
    Met1 l Z (⟨"java/lang/StringLatin1", "canEncode", "(I)Z"⟩ : MethodName) jdk_43_method_4_code 1 (some .boolean) ({ frames := 0, cells := 0, slots := 0, locals := 0 } : Room) #[(.int p1)] h0 (Q22 Z p1 h0 n0) := by
  refine own_met_of (plainFor_of_name pn_22) (ef_22 p1) ?_
  intro p e s m below meth c s₁ X hx hby hml hZ hown hnm hret hlk eT
  have hown : s.vm.findClass "java/lang/StringLatin1" = some m.cls := hown
  have N := Fr.nil n0
  refine own_iloadN X hx hby p1 d22_0 rfl 1 rfl ?_
  refine own_if_lt X hx hby d22_1 15 4 (by decide) rfl (fun c1 => ?_) (fun c1 => ?_)
  · skip
    refine own_iconst X hx hby (0 : Int32) d22_15 rfl 16 rfl ?_
    refine own_retN X hx hby hret hlk (t := .boolean) (z' := (0 : Int32)) (by simp) d22_16 (by decide) (by decide) rfl ?_
    rw [eT]
    exact ⟨congrArg (fun z => some (Value.int z)) (by unfold f22; rw [if_pos c1]), N, rfl⟩
  · skip
    refine own_iloadN X hx hby p1 d22_4 rfl 5 rfl ?_
    refine own_sipush X hx hby (255 : Int32) d22_5 rfl 8 rfl ?_
    refine own_icmp_gt X hx hby d22_8 15 11 (by decide) rfl (fun c8 => ?_) (fun c8 => ?_)
    · skip
      refine own_iconst X hx hby (0 : Int32) d22_15 rfl 16 rfl ?_
      refine own_retN X hx hby hret hlk (t := .boolean) (z' := (0 : Int32)) (by simp) d22_16 (by decide) (by decide) rfl ?_
      rw [eT]
      exact ⟨congrArg (fun z => some (Value.int z)) (by unfold f22; rw [if_neg c1, if_pos c8]), N, rfl⟩
    · skip
      refine own_iconst X hx hby (1 : Int32) d22_11 rfl 12 rfl ?_
      refine own_goto X hx hby d22_12 16 (by decide) ?_
      refine own_retN X hx hby hret hlk (t := .boolean) (z' := (1 : Int32)) (by simp) d22_16 (by decide) (by decide) rfl ?_
      rw [eT]
      exact ⟨congrArg (fun z => some (Value.int z)) (by unfold f22; rw [if_neg c1, if_neg c8]), N, rfl⟩
def own_g42 (p1 : Int32) : Int32 := (if p1 = (33 : Int32) then (1 : Int32) else (if p1 = (35 : Int32) then (1 : Int32) else (if p1 = (36 : Int32) then (1 : Int32) else (if p1 = (37 : Int32) then (1 : Int32) else (if p1 = (38 : Int32) then (1 : Int32) else (if p1 = (39 : Int32) then (1 : Int32) else (if p1 = (42 : Int32) then (1 : Int32) else (if p1 = (43 : Int32) then (1 : Int32) else (if p1 = (45 : Int32) then (1 : Int32) else (if p1 = (46 : Int32) then (1 : Int32) else (if p1 = (94 : Int32) then (1 : Int32) else (if p1 = (95 : Int32) then (1 : Int32) else (if p1 = (96 : Int32) then (1 : Int32) else (if p1 = (124 : Int32) then (1 : Int32) else (if p1 = (126 : Int32) then (1 : Int32) else (0 : Int32))))))))))))))))
def own_g28 (p1 : Int32) : Int32 := (if p1 < (97 : Int32) then own_g42 p1 else (if (122 : Int32) < p1 then own_g42 p1 else (1 : Int32)))
def own_g14 (p1 : Int32) : Int32 := (if p1 < (65 : Int32) then own_g28 p1 else (if (90 : Int32) < p1 then own_g28 p1 else (1 : Int32)))
def own_tok (p1 : Int32) : Int32 := (if p1 < (48 : Int32) then own_g14 p1 else (if (57 : Int32) < p1 then own_g14 p1 else (1 : Int32)))
theorem ef_10 (p1 : Int32) (m : MethodId) : entryFrame m #[(.int p1)] 1 = mkF m 0 #[.val (.int p1)] [] := by first | (simp [entryFrame, mkF, argsToLocals, Value.category]; done) | rfl
def Q10 (Z : State) (p1 : Int32) (h0 : Heap) (n0 : Nat) (v : Option Value) (h : Heap) (L : List Loc) : Prop := v = some (.int (own_tok p1)) ∧ Fr n0 L ∧ h = h0
set_option maxRecDepth 65536 in
set_option maxHeartbeats 40000000 in
theorem rm10 (l : Launch) (Z : State) (a0 : Array Value) (hw : ∀ d ∈ tables_1, d.before a0 Z = true) (p1 : Int32) (h0 : Heap) (n0 : Nat) (Zs : n0 ≤ h0.size) :
    Met1 l Z (⟨"com/example/operant/operant/HeaderFieldsIsTokenPinLaw", "tok", "(C)Z"⟩ : MethodName) method_4_code 1 (some .boolean) ({ frames := 0, cells := 0, slots := 0, locals := 0 } : Room) #[(.int p1)] h0 (Q10 Z p1 h0 n0) := by
  refine own_met_of (plainFor_of_name pn_1) (ef_10 p1) ?_
  intro p e s m below meth c s₁ X hx hby hml hZ hown hnm hret hlk eT
  have hown : s.vm.findClass "com/example/operant/operant/HeaderFieldsIsTokenPinLaw" = some m.cls := hown
  have N := Fr.nil n0
  have J42 : own_tok p1 = own_g42 p1 → Go p e below (FinQ s (Q10 Z p1 h0 n0) ({ frames := 0, cells := 0, slots := 0, locals := 0 } : Room).cells ({ frames := 0, cells := 0, slots := 0, locals := 0 } : Room).slots) s₁ (mkF m 42 #[.val (.int p1)] []) := by
    intro hr
    refine own_iloadN X hx hby p1 d10_42 rfl 43 rfl ?_
    refine own_bipush X hx hby (33 : Int32) d10_43 rfl 45 rfl ?_
    refine own_icmp_eq X hx hby d10_45 132 48 (by decide) rfl (fun c45 => ?_) (fun c45 => ?_)
    · skip
      refine own_iconst X hx hby (1 : Int32) d10_132 rfl 133 rfl ?_
      refine own_goto X hx hby d10_133 137 (by decide) ?_
      refine own_retN X hx hby hret hlk (t := .boolean) (z' := (1 : Int32)) (by simp) d10_137 (by decide) (by decide) rfl ?_
      rw [eT]
      exact ⟨congrArg (fun z => some (Value.int z)) ((hr.trans (by unfold own_g42; rw [if_pos c45])).symm), N, rfl⟩
    · skip
      refine own_iloadN X hx hby p1 d10_48 rfl 49 rfl ?_
      refine own_bipush X hx hby (35 : Int32) d10_49 rfl 51 rfl ?_
      refine own_icmp_eq X hx hby d10_51 132 54 (by decide) rfl (fun c51 => ?_) (fun c51 => ?_)
      · skip
        refine own_iconst X hx hby (1 : Int32) d10_132 rfl 133 rfl ?_
        refine own_goto X hx hby d10_133 137 (by decide) ?_
        refine own_retN X hx hby hret hlk (t := .boolean) (z' := (1 : Int32)) (by simp) d10_137 (by decide) (by decide) rfl ?_
        rw [eT]
        exact ⟨congrArg (fun z => some (Value.int z)) ((hr.trans (by unfold own_g42; rw [if_neg c45, if_pos c51])).symm), N, rfl⟩
      · skip
        refine own_iloadN X hx hby p1 d10_54 rfl 55 rfl ?_
        refine own_bipush X hx hby (36 : Int32) d10_55 rfl 57 rfl ?_
        refine own_icmp_eq X hx hby d10_57 132 60 (by decide) rfl (fun c57 => ?_) (fun c57 => ?_)
        · skip
          refine own_iconst X hx hby (1 : Int32) d10_132 rfl 133 rfl ?_
          refine own_goto X hx hby d10_133 137 (by decide) ?_
          refine own_retN X hx hby hret hlk (t := .boolean) (z' := (1 : Int32)) (by simp) d10_137 (by decide) (by decide) rfl ?_
          rw [eT]
          exact ⟨congrArg (fun z => some (Value.int z)) ((hr.trans (by unfold own_g42; rw [if_neg c45, if_neg c51, if_pos c57])).symm), N, rfl⟩
        · skip
          refine own_iloadN X hx hby p1 d10_60 rfl 61 rfl ?_
          refine own_bipush X hx hby (37 : Int32) d10_61 rfl 63 rfl ?_
          refine own_icmp_eq X hx hby d10_63 132 66 (by decide) rfl (fun c63 => ?_) (fun c63 => ?_)
          · skip
            refine own_iconst X hx hby (1 : Int32) d10_132 rfl 133 rfl ?_
            refine own_goto X hx hby d10_133 137 (by decide) ?_
            refine own_retN X hx hby hret hlk (t := .boolean) (z' := (1 : Int32)) (by simp) d10_137 (by decide) (by decide) rfl ?_
            rw [eT]
            exact ⟨congrArg (fun z => some (Value.int z)) ((hr.trans (by unfold own_g42; rw [if_neg c45, if_neg c51, if_neg c57, if_pos c63])).symm), N, rfl⟩
          · skip
            refine own_iloadN X hx hby p1 d10_66 rfl 67 rfl ?_
            refine own_bipush X hx hby (38 : Int32) d10_67 rfl 69 rfl ?_
            refine own_icmp_eq X hx hby d10_69 132 72 (by decide) rfl (fun c69 => ?_) (fun c69 => ?_)
            · skip
              refine own_iconst X hx hby (1 : Int32) d10_132 rfl 133 rfl ?_
              refine own_goto X hx hby d10_133 137 (by decide) ?_
              refine own_retN X hx hby hret hlk (t := .boolean) (z' := (1 : Int32)) (by simp) d10_137 (by decide) (by decide) rfl ?_
              rw [eT]
              exact ⟨congrArg (fun z => some (Value.int z)) ((hr.trans (by unfold own_g42; rw [if_neg c45, if_neg c51, if_neg c57, if_neg c63, if_pos c69])).symm), N, rfl⟩
            · skip
              refine own_iloadN X hx hby p1 d10_72 rfl 73 rfl ?_
              refine own_bipush X hx hby (39 : Int32) d10_73 rfl 75 rfl ?_
              refine own_icmp_eq X hx hby d10_75 132 78 (by decide) rfl (fun c75 => ?_) (fun c75 => ?_)
              · skip
                refine own_iconst X hx hby (1 : Int32) d10_132 rfl 133 rfl ?_
                refine own_goto X hx hby d10_133 137 (by decide) ?_
                refine own_retN X hx hby hret hlk (t := .boolean) (z' := (1 : Int32)) (by simp) d10_137 (by decide) (by decide) rfl ?_
                rw [eT]
                exact ⟨congrArg (fun z => some (Value.int z)) ((hr.trans (by unfold own_g42; rw [if_neg c45, if_neg c51, if_neg c57, if_neg c63, if_neg c69, if_pos c75])).symm), N, rfl⟩
              · skip
                refine own_iloadN X hx hby p1 d10_78 rfl 79 rfl ?_
                refine own_bipush X hx hby (42 : Int32) d10_79 rfl 81 rfl ?_
                refine own_icmp_eq X hx hby d10_81 132 84 (by decide) rfl (fun c81 => ?_) (fun c81 => ?_)
                · skip
                  refine own_iconst X hx hby (1 : Int32) d10_132 rfl 133 rfl ?_
                  refine own_goto X hx hby d10_133 137 (by decide) ?_
                  refine own_retN X hx hby hret hlk (t := .boolean) (z' := (1 : Int32)) (by simp) d10_137 (by decide) (by decide) rfl ?_
                  rw [eT]
                  exact ⟨congrArg (fun z => some (Value.int z)) ((hr.trans (by unfold own_g42; rw [if_neg c45, if_neg c51, if_neg c57, if_neg c63, if_neg c69, if_neg c75, if_pos c81])).symm), N, rfl⟩
                · skip
                  refine own_iloadN X hx hby p1 d10_84 rfl 85 rfl ?_
                  refine own_bipush X hx hby (43 : Int32) d10_85 rfl 87 rfl ?_
                  refine own_icmp_eq X hx hby d10_87 132 90 (by decide) rfl (fun c87 => ?_) (fun c87 => ?_)
                  · skip
                    refine own_iconst X hx hby (1 : Int32) d10_132 rfl 133 rfl ?_
                    refine own_goto X hx hby d10_133 137 (by decide) ?_
                    refine own_retN X hx hby hret hlk (t := .boolean) (z' := (1 : Int32)) (by simp) d10_137 (by decide) (by decide) rfl ?_
                    rw [eT]
                    exact ⟨congrArg (fun z => some (Value.int z)) ((hr.trans (by unfold own_g42; rw [if_neg c45, if_neg c51, if_neg c57, if_neg c63, if_neg c69, if_neg c75, if_neg c81, if_pos c87])).symm), N, rfl⟩
                  · skip
                    refine own_iloadN X hx hby p1 d10_90 rfl 91 rfl ?_
                    refine own_bipush X hx hby (45 : Int32) d10_91 rfl 93 rfl ?_
                    refine own_icmp_eq X hx hby d10_93 132 96 (by decide) rfl (fun c93 => ?_) (fun c93 => ?_)
                    · skip
                      refine own_iconst X hx hby (1 : Int32) d10_132 rfl 133 rfl ?_
                      refine own_goto X hx hby d10_133 137 (by decide) ?_
                      refine own_retN X hx hby hret hlk (t := .boolean) (z' := (1 : Int32)) (by simp) d10_137 (by decide) (by decide) rfl ?_
                      rw [eT]
                      exact ⟨congrArg (fun z => some (Value.int z)) ((hr.trans (by unfold own_g42; rw [if_neg c45, if_neg c51, if_neg c57, if_neg c63, if_neg c69, if_neg c75, if_neg c81, if_neg c87, if_pos c93])).symm), N, rfl⟩
                    · skip
                      refine own_iloadN X hx hby p1 d10_96 rfl 97 rfl ?_
                      refine own_bipush X hx hby (46 : Int32) d10_97 rfl 99 rfl ?_
                      refine own_icmp_eq X hx hby d10_99 132 102 (by decide) rfl (fun c99 => ?_) (fun c99 => ?_)
                      · skip
                        refine own_iconst X hx hby (1 : Int32) d10_132 rfl 133 rfl ?_
                        refine own_goto X hx hby d10_133 137 (by decide) ?_
                        refine own_retN X hx hby hret hlk (t := .boolean) (z' := (1 : Int32)) (by simp) d10_137 (by decide) (by decide) rfl ?_
                        rw [eT]
                        exact ⟨congrArg (fun z => some (Value.int z)) ((hr.trans (by unfold own_g42; rw [if_neg c45, if_neg c51, if_neg c57, if_neg c63, if_neg c69, if_neg c75, if_neg c81, if_neg c87, if_neg c93, if_pos c99])).symm), N, rfl⟩
                      · skip
                        refine own_iloadN X hx hby p1 d10_102 rfl 103 rfl ?_
                        refine own_bipush X hx hby (94 : Int32) d10_103 rfl 105 rfl ?_
                        refine own_icmp_eq X hx hby d10_105 132 108 (by decide) rfl (fun c105 => ?_) (fun c105 => ?_)
                        · skip
                          refine own_iconst X hx hby (1 : Int32) d10_132 rfl 133 rfl ?_
                          refine own_goto X hx hby d10_133 137 (by decide) ?_
                          refine own_retN X hx hby hret hlk (t := .boolean) (z' := (1 : Int32)) (by simp) d10_137 (by decide) (by decide) rfl ?_
                          rw [eT]
                          exact ⟨congrArg (fun z => some (Value.int z)) ((hr.trans (by unfold own_g42; rw [if_neg c45, if_neg c51, if_neg c57, if_neg c63, if_neg c69, if_neg c75, if_neg c81, if_neg c87, if_neg c93, if_neg c99, if_pos c105])).symm), N, rfl⟩
                        · skip
                          refine own_iloadN X hx hby p1 d10_108 rfl 109 rfl ?_
                          refine own_bipush X hx hby (95 : Int32) d10_109 rfl 111 rfl ?_
                          refine own_icmp_eq X hx hby d10_111 132 114 (by decide) rfl (fun c111 => ?_) (fun c111 => ?_)
                          · skip
                            refine own_iconst X hx hby (1 : Int32) d10_132 rfl 133 rfl ?_
                            refine own_goto X hx hby d10_133 137 (by decide) ?_
                            refine own_retN X hx hby hret hlk (t := .boolean) (z' := (1 : Int32)) (by simp) d10_137 (by decide) (by decide) rfl ?_
                            rw [eT]
                            exact ⟨congrArg (fun z => some (Value.int z)) ((hr.trans (by unfold own_g42; rw [if_neg c45, if_neg c51, if_neg c57, if_neg c63, if_neg c69, if_neg c75, if_neg c81, if_neg c87, if_neg c93, if_neg c99, if_neg c105, if_pos c111])).symm), N, rfl⟩
                          · skip
                            refine own_iloadN X hx hby p1 d10_114 rfl 115 rfl ?_
                            refine own_bipush X hx hby (96 : Int32) d10_115 rfl 117 rfl ?_
                            refine own_icmp_eq X hx hby d10_117 132 120 (by decide) rfl (fun c117 => ?_) (fun c117 => ?_)
                            · skip
                              refine own_iconst X hx hby (1 : Int32) d10_132 rfl 133 rfl ?_
                              refine own_goto X hx hby d10_133 137 (by decide) ?_
                              refine own_retN X hx hby hret hlk (t := .boolean) (z' := (1 : Int32)) (by simp) d10_137 (by decide) (by decide) rfl ?_
                              rw [eT]
                              exact ⟨congrArg (fun z => some (Value.int z)) ((hr.trans (by unfold own_g42; rw [if_neg c45, if_neg c51, if_neg c57, if_neg c63, if_neg c69, if_neg c75, if_neg c81, if_neg c87, if_neg c93, if_neg c99, if_neg c105, if_neg c111, if_pos c117])).symm), N, rfl⟩
                            · skip
                              refine own_iloadN X hx hby p1 d10_120 rfl 121 rfl ?_
                              refine own_bipush X hx hby (124 : Int32) d10_121 rfl 123 rfl ?_
                              refine own_icmp_eq X hx hby d10_123 132 126 (by decide) rfl (fun c123 => ?_) (fun c123 => ?_)
                              · skip
                                refine own_iconst X hx hby (1 : Int32) d10_132 rfl 133 rfl ?_
                                refine own_goto X hx hby d10_133 137 (by decide) ?_
                                refine own_retN X hx hby hret hlk (t := .boolean) (z' := (1 : Int32)) (by simp) d10_137 (by decide) (by decide) rfl ?_
                                rw [eT]
                                exact ⟨congrArg (fun z => some (Value.int z)) ((hr.trans (by unfold own_g42; rw [if_neg c45, if_neg c51, if_neg c57, if_neg c63, if_neg c69, if_neg c75, if_neg c81, if_neg c87, if_neg c93, if_neg c99, if_neg c105, if_neg c111, if_neg c117, if_pos c123])).symm), N, rfl⟩
                              · skip
                                refine own_iloadN X hx hby p1 d10_126 rfl 127 rfl ?_
                                refine own_bipush X hx hby (126 : Int32) d10_127 rfl 129 rfl ?_
                                refine own_icmp_ne X hx hby d10_129 136 132 (by decide) rfl (fun c129 => ?_) (fun c129 => ?_)
                                · skip
                                  refine own_iconst X hx hby (0 : Int32) d10_136 rfl 137 rfl ?_
                                  refine own_retN X hx hby hret hlk (t := .boolean) (z' := (0 : Int32)) (by simp) d10_137 (by decide) (by decide) rfl ?_
                                  rw [eT]
                                  exact ⟨congrArg (fun z => some (Value.int z)) ((hr.trans (by unfold own_g42; rw [if_neg c45, if_neg c51, if_neg c57, if_neg c63, if_neg c69, if_neg c75, if_neg c81, if_neg c87, if_neg c93, if_neg c99, if_neg c105, if_neg c111, if_neg c117, if_neg c123, if_neg c129])).symm), N, rfl⟩
                                · skip
                                  refine own_iconst X hx hby (1 : Int32) d10_132 rfl 133 rfl ?_
                                  refine own_goto X hx hby d10_133 137 (by decide) ?_
                                  refine own_retN X hx hby hret hlk (t := .boolean) (z' := (1 : Int32)) (by simp) d10_137 (by decide) (by decide) rfl ?_
                                  rw [eT]
                                  exact ⟨congrArg (fun z => some (Value.int z)) ((hr.trans (by unfold own_g42; rw [if_neg c45, if_neg c51, if_neg c57, if_neg c63, if_neg c69, if_neg c75, if_neg c81, if_neg c87, if_neg c93, if_neg c99, if_neg c105, if_neg c111, if_neg c117, if_neg c123, if_pos c129])).symm), N, rfl⟩
  have J28 : own_tok p1 = own_g28 p1 → Go p e below (FinQ s (Q10 Z p1 h0 n0) ({ frames := 0, cells := 0, slots := 0, locals := 0 } : Room).cells ({ frames := 0, cells := 0, slots := 0, locals := 0 } : Room).slots) s₁ (mkF m 28 #[.val (.int p1)] []) := by
    intro hr
    refine own_iloadN X hx hby p1 d10_28 rfl 29 rfl ?_
    refine own_bipush X hx hby (97 : Int32) d10_29 rfl 31 rfl ?_
    refine own_icmp_lt X hx hby d10_31 42 34 (by decide) rfl (fun c31 => ?_) (fun c31 => ?_)
    · skip
      exact J42 (hr.trans (by unfold own_g28; rw [if_pos c31]))
    · skip
      refine own_iloadN X hx hby p1 d10_34 rfl 35 rfl ?_
      refine own_bipush X hx hby (122 : Int32) d10_35 rfl 37 rfl ?_
      refine own_icmp_gt X hx hby d10_37 42 40 (by decide) rfl (fun c37 => ?_) (fun c37 => ?_)
      · skip
        exact J42 (hr.trans (by unfold own_g28; rw [if_neg c31, if_pos c37]))
      · skip
        refine own_iconst X hx hby (1 : Int32) d10_40 rfl 41 rfl ?_
        refine own_retN X hx hby hret hlk (t := .boolean) (z' := (1 : Int32)) (by simp) d10_41 (by decide) (by decide) rfl ?_
        rw [eT]
        exact ⟨congrArg (fun z => some (Value.int z)) ((hr.trans (by unfold own_g28; rw [if_neg c31, if_neg c37])).symm), N, rfl⟩
  have J14 : own_tok p1 = own_g14 p1 → Go p e below (FinQ s (Q10 Z p1 h0 n0) ({ frames := 0, cells := 0, slots := 0, locals := 0 } : Room).cells ({ frames := 0, cells := 0, slots := 0, locals := 0 } : Room).slots) s₁ (mkF m 14 #[.val (.int p1)] []) := by
    intro hr
    refine own_iloadN X hx hby p1 d10_14 rfl 15 rfl ?_
    refine own_bipush X hx hby (65 : Int32) d10_15 rfl 17 rfl ?_
    refine own_icmp_lt X hx hby d10_17 28 20 (by decide) rfl (fun c17 => ?_) (fun c17 => ?_)
    · skip
      exact J28 (hr.trans (by unfold own_g14; rw [if_pos c17]))
    · skip
      refine own_iloadN X hx hby p1 d10_20 rfl 21 rfl ?_
      refine own_bipush X hx hby (90 : Int32) d10_21 rfl 23 rfl ?_
      refine own_icmp_gt X hx hby d10_23 28 26 (by decide) rfl (fun c23 => ?_) (fun c23 => ?_)
      · skip
        exact J28 (hr.trans (by unfold own_g14; rw [if_neg c17, if_pos c23]))
      · skip
        refine own_iconst X hx hby (1 : Int32) d10_26 rfl 27 rfl ?_
        refine own_retN X hx hby hret hlk (t := .boolean) (z' := (1 : Int32)) (by simp) d10_27 (by decide) (by decide) rfl ?_
        rw [eT]
        exact ⟨congrArg (fun z => some (Value.int z)) ((hr.trans (by unfold own_g14; rw [if_neg c17, if_neg c23])).symm), N, rfl⟩
  have hr : own_tok p1 = own_tok p1 := rfl
  refine own_iloadN X hx hby p1 d10_0 rfl 1 rfl ?_
  refine own_bipush X hx hby (48 : Int32) d10_1 rfl 3 rfl ?_
  refine own_icmp_lt X hx hby d10_3 14 6 (by decide) rfl (fun c3 => ?_) (fun c3 => ?_)
  · skip
    exact J14 (hr.trans (by unfold own_tok; rw [if_pos c3]))
  · skip
    refine own_iloadN X hx hby p1 d10_6 rfl 7 rfl ?_
    refine own_bipush X hx hby (57 : Int32) d10_7 rfl 9 rfl ?_
    refine own_icmp_gt X hx hby d10_9 14 12 (by decide) rfl (fun c9 => ?_) (fun c9 => ?_)
    · skip
      exact J14 (hr.trans (by unfold own_tok; rw [if_neg c3, if_pos c9]))
    · skip
      refine own_iconst X hx hby (1 : Int32) d10_12 rfl 13 rfl ?_
      refine own_retN X hx hby hret hlk (t := .boolean) (z' := (1 : Int32)) (by simp) d10_13 (by decide) (by decide) rfl ?_
      rw [eT]
      exact ⟨congrArg (fun z => some (Value.int z)) ((hr.trans (by unfold own_tok; rw [if_neg c3, if_neg c9])).symm), N, rfl⟩
theorem ef_23  (m : MethodId) : entryFrame m #[(.int (0 : Int32)), (.int (0 : Int32))] 2 = mkF m 0 #[.val (.int (0 : Int32)), .val (.int (0 : Int32))] [] := by first | (simp [entryFrame, mkF, argsToLocals, Value.category]; done) | rfl
def Q23 (Z : State)  (h0 : Heap) (n0 : Nat) (v : Option Value) (h : Heap) (L : List Loc) : Prop := v = some (.int (0 : Int32)) ∧ Fr n0 L ∧ h = h0
set_option maxRecDepth 65536 in
set_option maxHeartbeats 40000000 in
theorem rm23 (l : Launch) (Z : State) (a0 : Array Value) (hw : ∀ d ∈ tables_1, d.before a0 Z = true)  (h0 : Heap) (n0 : Nat) (Zs : n0 ≤ h0.size) :
    Met1 l Z (⟨"java/lang/Math", "max", "(II)I"⟩ : MethodName) jdk_29_method_65_code 2 (some .int) ({ frames := 0, cells := 0, slots := 0, locals := 0 } : Room) #[(.int (0 : Int32)), (.int (0 : Int32))] h0 (Q23 Z  h0 n0) := by
  refine own_met_of (Jvm.Free.JP.mathPlain rfl (by decide +kernel)) (ef_23 ) ?_
  intro p e s m below meth c s₁ X hx hby hml hZ hown hnm hret hlk eT
  have hown : s.vm.findClass "java/lang/Math" = some m.cls := hown
  have N := Fr.nil n0
  refine own_iloadN X hx hby (0 : Int32) d23_0 rfl 1 rfl ?_
  refine own_iloadN X hx hby (0 : Int32) d23_1 rfl 2 rfl ?_
  have c2 : ¬ (0 : Int32) < (0 : Int32) := by decide
  refine own_icmp_lt X hx hby d23_2 9 5 (by decide) rfl (fun q => absurd q c2) (fun _ => ?_)
  refine own_iloadN X hx hby (0 : Int32) d23_5 rfl 6 rfl ?_
  refine own_goto X hx hby d23_6 10 (by decide) ?_
  refine own_retI X hx hby hret hlk d23_10 (by decide) (by decide) ?_
  rw [eT]
  exact ⟨rfl, N, rfl⟩
theorem ef_24  (m : MethodId) : entryFrame m #[(.int (15 : Int32)), (.int (15 : Int32))] 2 = mkF m 0 #[.val (.int (15 : Int32)), .val (.int (15 : Int32))] [] := by first | (simp [entryFrame, mkF, argsToLocals, Value.category]; done) | rfl
def Q24 (Z : State)  (h0 : Heap) (n0 : Nat) (v : Option Value) (h : Heap) (L : List Loc) : Prop := v = some (.int (15 : Int32)) ∧ Fr n0 L ∧ h = h0
set_option maxRecDepth 65536 in
set_option maxHeartbeats 40000000 in
theorem rm24 (l : Launch) (Z : State) (a0 : Array Value) (hw : ∀ d ∈ tables_1, d.before a0 Z = true)  (h0 : Heap) (n0 : Nat) (Zs : n0 ≤ h0.size) :
    Met1 l Z (⟨"java/lang/Math", "min", "(II)I"⟩ : MethodName) jdk_29_method_69_code 2 (some .int) ({ frames := 0, cells := 0, slots := 0, locals := 0 } : Room) #[(.int (15 : Int32)), (.int (15 : Int32))] h0 (Q24 Z  h0 n0) := by
  refine own_met_of (Jvm.Free.JP.mathPlain rfl (by decide +kernel)) (ef_24 ) ?_
  intro p e s m below meth c s₁ X hx hby hml hZ hown hnm hret hlk eT
  have hown : s.vm.findClass "java/lang/Math" = some m.cls := hown
  have N := Fr.nil n0
  refine own_iloadN X hx hby (15 : Int32) d24_0 rfl 1 rfl ?_
  refine own_iloadN X hx hby (15 : Int32) d24_1 rfl 2 rfl ?_
  have c2 : ¬ (15 : Int32) < (15 : Int32) := by decide
  refine own_icmp_gt X hx hby d24_2 9 5 (by decide) rfl (fun q => absurd q c2) (fun _ => ?_)
  refine own_iloadN X hx hby (15 : Int32) d24_5 rfl 6 rfl ?_
  refine own_goto X hx hby d24_6 10 (by decide) ?_
  refine own_retI X hx hby hret hlk d24_10 (by decide) (by decide) ?_
  rw [eT]
  exact ⟨rfl, N, rfl⟩
theorem ef_25 (a1 : Addr) (p2 : Int32) (m : MethodId) : entryFrame m #[(.ref a1), (.int p2), (.int (0 : Int32)), (.int (15 : Int32))] 6 = mkF m 0 #[.val (.ref a1), .val (.int p2), .val (.int (0 : Int32)), .val (.int (15 : Int32)), .unset, .unset] [] := by first | (simp [entryFrame, mkF, argsToLocals, Value.category]; done) | rfl
def f25 (p2 : Int32) (ar_a1 : Nat → Int32) : Int32 := (if (ar_a1 0) = (p2.toInt8.toInt32) then (0 : Int32) else (if (ar_a1 1) = (p2.toInt8.toInt32) then (1 : Int32) else (if (ar_a1 2) = (p2.toInt8.toInt32) then (2 : Int32) else (if (ar_a1 3) = (p2.toInt8.toInt32) then (3 : Int32) else (if (ar_a1 4) = (p2.toInt8.toInt32) then (4 : Int32) else (if (ar_a1 5) = (p2.toInt8.toInt32) then (5 : Int32) else (if (ar_a1 6) = (p2.toInt8.toInt32) then (6 : Int32) else (if (ar_a1 7) = (p2.toInt8.toInt32) then (7 : Int32) else (if (ar_a1 8) = (p2.toInt8.toInt32) then (8 : Int32) else (if (ar_a1 9) = (p2.toInt8.toInt32) then (9 : Int32) else (if (ar_a1 10) = (p2.toInt8.toInt32) then (10 : Int32) else (if (ar_a1 11) = (p2.toInt8.toInt32) then (11 : Int32) else (if (ar_a1 12) = (p2.toInt8.toInt32) then (12 : Int32) else (if (ar_a1 13) = (p2.toInt8.toInt32) then (13 : Int32) else (if (ar_a1 14) = (p2.toInt8.toInt32) then (14 : Int32) else (-1 : Int32))))))))))))))))
def Q25 (Z : State) (a1 : Addr) (p2 : Int32) (ar_a1 : Nat → Int32) (h0 : Heap) (n0 : Nat) (v : Option Value) (h : Heap) (L : List Loc) : Prop := v = some (.int (f25 p2 ar_a1)) ∧ Fr n0 L ∧ h = h0
set_option maxRecDepth 65536 in
set_option maxHeartbeats 40000000 in
theorem rm25 (l : Launch) (Z : State) (a0 : Array Value) (hw : ∀ d ∈ tables_1, d.before a0 Z = true) (a1 : Addr) (p2 : Int32) (ar_a1 : Nat → Int32) (h0 : Heap) (n0 : Nat) (Zs : n0 ≤ h0.size) (A_a1 : Afi Z h0 a1 .byte 15 ar_a1) :
    Met1 l Z (⟨"java/lang/StringLatin1", "indexOfChar", "([BIII)I"⟩ : MethodName) jdk_43_method_23_code 6 (some .int) ({ frames := 0, cells := 0, slots := 0, locals := 0 } : Room) #[(.ref a1), (.int p2), (.int (0 : Int32)), (.int (15 : Int32))] h0 (Q25 Z a1 p2 ar_a1 h0 n0) := by
  refine own_met_of (plainFor_of_name pn_22) (ef_25 a1 p2) ?_
  intro p e s m below meth c s₁ X hx hby hml hZ hown hnm hret hlk eT
  have hown : s.vm.findClass "java/lang/StringLatin1" = some m.cls := hown
  have N := Fr.nil n0
  refine own_iloadN X hx hby p2 d25_0 rfl 1 rfl ?_
  refine own_i2b X hx hby d25_1 2 rfl ?_
  refine own_istore X hx hby d25_2 rfl (l' := #[.val (.ref a1), .val (.int p2), .val (.int (0 : Int32)), .val (.int (15 : Int32)), .val (.int (p2.toInt8.toInt32)), .unset]) rfl 4 rfl ?_
  refine own_iloadN X hx hby (0 : Int32) d25_4 rfl 5 rfl ?_
  refine own_istore X hx hby d25_5 rfl (l' := #[.val (.ref a1), .val (.int p2), .val (.int (0 : Int32)), .val (.int (15 : Int32)), .val (.int (p2.toInt8.toInt32)), .val (.int (0 : Int32))]) rfl 7 rfl ?_
  refine own_iload X hx hby (0 : Int32) d25_7 rfl 9 rfl ?_
  refine own_iloadN X hx hby (15 : Int32) d25_9 rfl 10 rfl ?_
  have c10 : (0 : Int32) < (15 : Int32) := by decide
  refine own_icmp_ge X hx hby d25_10 31 13 (by decide) rfl (fun q => absurd c10 q) (fun _ => ?_)
  refine own_aloadN X hx hby (.ref a1) d25_13 rfl rfl 14 rfl ?_
  refine own_iload X hx hby (0 : Int32) d25_14 rfl 16 rfl ?_
  refine own_baload X hx hby hZ (ar_a1 0) eT A_a1 (by decide) rfl d25_16 17 rfl ?_
  refine own_iload X hx hby (p2.toInt8.toInt32) d25_17 rfl 19 rfl ?_
  refine own_icmp_ne X hx hby d25_19 25 22 (by decide) rfl (fun c19 => ?_) (fun c19 => ?_)
  · skip
    refine own_iinc X hx hby d25_25 (x := (0 : Int32)) rfl (by decide) (l' := #[.val (.ref a1), .val (.int p2), .val (.int (0 : Int32)), .val (.int (15 : Int32)), .val (.int (p2.toInt8.toInt32)), .val (.int (1 : Int32))]) rfl 28 rfl ?_
    refine own_goto X hx hby d25_28 7 (by decide) ?_
    refine own_iload X hx hby (1 : Int32) d25_7 rfl 9 rfl ?_
    refine own_iloadN X hx hby (15 : Int32) d25_9 rfl 10 rfl ?_
    have c10_2 : (1 : Int32) < (15 : Int32) := by decide
    refine own_icmp_ge X hx hby d25_10 31 13 (by decide) rfl (fun q => absurd c10_2 q) (fun _ => ?_)
    refine own_aloadN X hx hby (.ref a1) d25_13 rfl rfl 14 rfl ?_
    refine own_iload X hx hby (1 : Int32) d25_14 rfl 16 rfl ?_
    refine own_baload X hx hby hZ (ar_a1 1) eT A_a1 (by decide) rfl d25_16 17 rfl ?_
    refine own_iload X hx hby (p2.toInt8.toInt32) d25_17 rfl 19 rfl ?_
    refine own_icmp_ne X hx hby d25_19 25 22 (by decide) rfl (fun c19_2 => ?_) (fun c19_2 => ?_)
    · skip
      refine own_iinc X hx hby d25_25 (x := (1 : Int32)) rfl (by decide) (l' := #[.val (.ref a1), .val (.int p2), .val (.int (0 : Int32)), .val (.int (15 : Int32)), .val (.int (p2.toInt8.toInt32)), .val (.int (2 : Int32))]) rfl 28 rfl ?_
      refine own_goto X hx hby d25_28 7 (by decide) ?_
      refine own_iload X hx hby (2 : Int32) d25_7 rfl 9 rfl ?_
      refine own_iloadN X hx hby (15 : Int32) d25_9 rfl 10 rfl ?_
      have c10_3 : (2 : Int32) < (15 : Int32) := by decide
      refine own_icmp_ge X hx hby d25_10 31 13 (by decide) rfl (fun q => absurd c10_3 q) (fun _ => ?_)
      refine own_aloadN X hx hby (.ref a1) d25_13 rfl rfl 14 rfl ?_
      refine own_iload X hx hby (2 : Int32) d25_14 rfl 16 rfl ?_
      refine own_baload X hx hby hZ (ar_a1 2) eT A_a1 (by decide) rfl d25_16 17 rfl ?_
      refine own_iload X hx hby (p2.toInt8.toInt32) d25_17 rfl 19 rfl ?_
      refine own_icmp_ne X hx hby d25_19 25 22 (by decide) rfl (fun c19_3 => ?_) (fun c19_3 => ?_)
      · skip
        refine own_iinc X hx hby d25_25 (x := (2 : Int32)) rfl (by decide) (l' := #[.val (.ref a1), .val (.int p2), .val (.int (0 : Int32)), .val (.int (15 : Int32)), .val (.int (p2.toInt8.toInt32)), .val (.int (3 : Int32))]) rfl 28 rfl ?_
        refine own_goto X hx hby d25_28 7 (by decide) ?_
        refine own_iload X hx hby (3 : Int32) d25_7 rfl 9 rfl ?_
        refine own_iloadN X hx hby (15 : Int32) d25_9 rfl 10 rfl ?_
        have c10_4 : (3 : Int32) < (15 : Int32) := by decide
        refine own_icmp_ge X hx hby d25_10 31 13 (by decide) rfl (fun q => absurd c10_4 q) (fun _ => ?_)
        refine own_aloadN X hx hby (.ref a1) d25_13 rfl rfl 14 rfl ?_
        refine own_iload X hx hby (3 : Int32) d25_14 rfl 16 rfl ?_
        refine own_baload X hx hby hZ (ar_a1 3) eT A_a1 (by decide) rfl d25_16 17 rfl ?_
        refine own_iload X hx hby (p2.toInt8.toInt32) d25_17 rfl 19 rfl ?_
        refine own_icmp_ne X hx hby d25_19 25 22 (by decide) rfl (fun c19_4 => ?_) (fun c19_4 => ?_)
        · skip
          refine own_iinc X hx hby d25_25 (x := (3 : Int32)) rfl (by decide) (l' := #[.val (.ref a1), .val (.int p2), .val (.int (0 : Int32)), .val (.int (15 : Int32)), .val (.int (p2.toInt8.toInt32)), .val (.int (4 : Int32))]) rfl 28 rfl ?_
          refine own_goto X hx hby d25_28 7 (by decide) ?_
          refine own_iload X hx hby (4 : Int32) d25_7 rfl 9 rfl ?_
          refine own_iloadN X hx hby (15 : Int32) d25_9 rfl 10 rfl ?_
          have c10_5 : (4 : Int32) < (15 : Int32) := by decide
          refine own_icmp_ge X hx hby d25_10 31 13 (by decide) rfl (fun q => absurd c10_5 q) (fun _ => ?_)
          refine own_aloadN X hx hby (.ref a1) d25_13 rfl rfl 14 rfl ?_
          refine own_iload X hx hby (4 : Int32) d25_14 rfl 16 rfl ?_
          refine own_baload X hx hby hZ (ar_a1 4) eT A_a1 (by decide) rfl d25_16 17 rfl ?_
          refine own_iload X hx hby (p2.toInt8.toInt32) d25_17 rfl 19 rfl ?_
          refine own_icmp_ne X hx hby d25_19 25 22 (by decide) rfl (fun c19_5 => ?_) (fun c19_5 => ?_)
          · skip
            refine own_iinc X hx hby d25_25 (x := (4 : Int32)) rfl (by decide) (l' := #[.val (.ref a1), .val (.int p2), .val (.int (0 : Int32)), .val (.int (15 : Int32)), .val (.int (p2.toInt8.toInt32)), .val (.int (5 : Int32))]) rfl 28 rfl ?_
            refine own_goto X hx hby d25_28 7 (by decide) ?_
            refine own_iload X hx hby (5 : Int32) d25_7 rfl 9 rfl ?_
            refine own_iloadN X hx hby (15 : Int32) d25_9 rfl 10 rfl ?_
            have c10_6 : (5 : Int32) < (15 : Int32) := by decide
            refine own_icmp_ge X hx hby d25_10 31 13 (by decide) rfl (fun q => absurd c10_6 q) (fun _ => ?_)
            refine own_aloadN X hx hby (.ref a1) d25_13 rfl rfl 14 rfl ?_
            refine own_iload X hx hby (5 : Int32) d25_14 rfl 16 rfl ?_
            refine own_baload X hx hby hZ (ar_a1 5) eT A_a1 (by decide) rfl d25_16 17 rfl ?_
            refine own_iload X hx hby (p2.toInt8.toInt32) d25_17 rfl 19 rfl ?_
            refine own_icmp_ne X hx hby d25_19 25 22 (by decide) rfl (fun c19_6 => ?_) (fun c19_6 => ?_)
            · skip
              refine own_iinc X hx hby d25_25 (x := (5 : Int32)) rfl (by decide) (l' := #[.val (.ref a1), .val (.int p2), .val (.int (0 : Int32)), .val (.int (15 : Int32)), .val (.int (p2.toInt8.toInt32)), .val (.int (6 : Int32))]) rfl 28 rfl ?_
              refine own_goto X hx hby d25_28 7 (by decide) ?_
              refine own_iload X hx hby (6 : Int32) d25_7 rfl 9 rfl ?_
              refine own_iloadN X hx hby (15 : Int32) d25_9 rfl 10 rfl ?_
              have c10_7 : (6 : Int32) < (15 : Int32) := by decide
              refine own_icmp_ge X hx hby d25_10 31 13 (by decide) rfl (fun q => absurd c10_7 q) (fun _ => ?_)
              refine own_aloadN X hx hby (.ref a1) d25_13 rfl rfl 14 rfl ?_
              refine own_iload X hx hby (6 : Int32) d25_14 rfl 16 rfl ?_
              refine own_baload X hx hby hZ (ar_a1 6) eT A_a1 (by decide) rfl d25_16 17 rfl ?_
              refine own_iload X hx hby (p2.toInt8.toInt32) d25_17 rfl 19 rfl ?_
              refine own_icmp_ne X hx hby d25_19 25 22 (by decide) rfl (fun c19_7 => ?_) (fun c19_7 => ?_)
              · skip
                refine own_iinc X hx hby d25_25 (x := (6 : Int32)) rfl (by decide) (l' := #[.val (.ref a1), .val (.int p2), .val (.int (0 : Int32)), .val (.int (15 : Int32)), .val (.int (p2.toInt8.toInt32)), .val (.int (7 : Int32))]) rfl 28 rfl ?_
                refine own_goto X hx hby d25_28 7 (by decide) ?_
                refine own_iload X hx hby (7 : Int32) d25_7 rfl 9 rfl ?_
                refine own_iloadN X hx hby (15 : Int32) d25_9 rfl 10 rfl ?_
                have c10_8 : (7 : Int32) < (15 : Int32) := by decide
                refine own_icmp_ge X hx hby d25_10 31 13 (by decide) rfl (fun q => absurd c10_8 q) (fun _ => ?_)
                refine own_aloadN X hx hby (.ref a1) d25_13 rfl rfl 14 rfl ?_
                refine own_iload X hx hby (7 : Int32) d25_14 rfl 16 rfl ?_
                refine own_baload X hx hby hZ (ar_a1 7) eT A_a1 (by decide) rfl d25_16 17 rfl ?_
                refine own_iload X hx hby (p2.toInt8.toInt32) d25_17 rfl 19 rfl ?_
                refine own_icmp_ne X hx hby d25_19 25 22 (by decide) rfl (fun c19_8 => ?_) (fun c19_8 => ?_)
                · skip
                  refine own_iinc X hx hby d25_25 (x := (7 : Int32)) rfl (by decide) (l' := #[.val (.ref a1), .val (.int p2), .val (.int (0 : Int32)), .val (.int (15 : Int32)), .val (.int (p2.toInt8.toInt32)), .val (.int (8 : Int32))]) rfl 28 rfl ?_
                  refine own_goto X hx hby d25_28 7 (by decide) ?_
                  refine own_iload X hx hby (8 : Int32) d25_7 rfl 9 rfl ?_
                  refine own_iloadN X hx hby (15 : Int32) d25_9 rfl 10 rfl ?_
                  have c10_9 : (8 : Int32) < (15 : Int32) := by decide
                  refine own_icmp_ge X hx hby d25_10 31 13 (by decide) rfl (fun q => absurd c10_9 q) (fun _ => ?_)
                  refine own_aloadN X hx hby (.ref a1) d25_13 rfl rfl 14 rfl ?_
                  refine own_iload X hx hby (8 : Int32) d25_14 rfl 16 rfl ?_
                  refine own_baload X hx hby hZ (ar_a1 8) eT A_a1 (by decide) rfl d25_16 17 rfl ?_
                  refine own_iload X hx hby (p2.toInt8.toInt32) d25_17 rfl 19 rfl ?_
                  refine own_icmp_ne X hx hby d25_19 25 22 (by decide) rfl (fun c19_9 => ?_) (fun c19_9 => ?_)
                  · skip
                    refine own_iinc X hx hby d25_25 (x := (8 : Int32)) rfl (by decide) (l' := #[.val (.ref a1), .val (.int p2), .val (.int (0 : Int32)), .val (.int (15 : Int32)), .val (.int (p2.toInt8.toInt32)), .val (.int (9 : Int32))]) rfl 28 rfl ?_
                    refine own_goto X hx hby d25_28 7 (by decide) ?_
                    refine own_iload X hx hby (9 : Int32) d25_7 rfl 9 rfl ?_
                    refine own_iloadN X hx hby (15 : Int32) d25_9 rfl 10 rfl ?_
                    have c10_10 : (9 : Int32) < (15 : Int32) := by decide
                    refine own_icmp_ge X hx hby d25_10 31 13 (by decide) rfl (fun q => absurd c10_10 q) (fun _ => ?_)
                    refine own_aloadN X hx hby (.ref a1) d25_13 rfl rfl 14 rfl ?_
                    refine own_iload X hx hby (9 : Int32) d25_14 rfl 16 rfl ?_
                    refine own_baload X hx hby hZ (ar_a1 9) eT A_a1 (by decide) rfl d25_16 17 rfl ?_
                    refine own_iload X hx hby (p2.toInt8.toInt32) d25_17 rfl 19 rfl ?_
                    refine own_icmp_ne X hx hby d25_19 25 22 (by decide) rfl (fun c19_10 => ?_) (fun c19_10 => ?_)
                    · skip
                      refine own_iinc X hx hby d25_25 (x := (9 : Int32)) rfl (by decide) (l' := #[.val (.ref a1), .val (.int p2), .val (.int (0 : Int32)), .val (.int (15 : Int32)), .val (.int (p2.toInt8.toInt32)), .val (.int (10 : Int32))]) rfl 28 rfl ?_
                      refine own_goto X hx hby d25_28 7 (by decide) ?_
                      refine own_iload X hx hby (10 : Int32) d25_7 rfl 9 rfl ?_
                      refine own_iloadN X hx hby (15 : Int32) d25_9 rfl 10 rfl ?_
                      have c10_11 : (10 : Int32) < (15 : Int32) := by decide
                      refine own_icmp_ge X hx hby d25_10 31 13 (by decide) rfl (fun q => absurd c10_11 q) (fun _ => ?_)
                      refine own_aloadN X hx hby (.ref a1) d25_13 rfl rfl 14 rfl ?_
                      refine own_iload X hx hby (10 : Int32) d25_14 rfl 16 rfl ?_
                      refine own_baload X hx hby hZ (ar_a1 10) eT A_a1 (by decide) rfl d25_16 17 rfl ?_
                      refine own_iload X hx hby (p2.toInt8.toInt32) d25_17 rfl 19 rfl ?_
                      refine own_icmp_ne X hx hby d25_19 25 22 (by decide) rfl (fun c19_11 => ?_) (fun c19_11 => ?_)
                      · skip
                        refine own_iinc X hx hby d25_25 (x := (10 : Int32)) rfl (by decide) (l' := #[.val (.ref a1), .val (.int p2), .val (.int (0 : Int32)), .val (.int (15 : Int32)), .val (.int (p2.toInt8.toInt32)), .val (.int (11 : Int32))]) rfl 28 rfl ?_
                        refine own_goto X hx hby d25_28 7 (by decide) ?_
                        refine own_iload X hx hby (11 : Int32) d25_7 rfl 9 rfl ?_
                        refine own_iloadN X hx hby (15 : Int32) d25_9 rfl 10 rfl ?_
                        have c10_12 : (11 : Int32) < (15 : Int32) := by decide
                        refine own_icmp_ge X hx hby d25_10 31 13 (by decide) rfl (fun q => absurd c10_12 q) (fun _ => ?_)
                        refine own_aloadN X hx hby (.ref a1) d25_13 rfl rfl 14 rfl ?_
                        refine own_iload X hx hby (11 : Int32) d25_14 rfl 16 rfl ?_
                        refine own_baload X hx hby hZ (ar_a1 11) eT A_a1 (by decide) rfl d25_16 17 rfl ?_
                        refine own_iload X hx hby (p2.toInt8.toInt32) d25_17 rfl 19 rfl ?_
                        refine own_icmp_ne X hx hby d25_19 25 22 (by decide) rfl (fun c19_12 => ?_) (fun c19_12 => ?_)
                        · skip
                          refine own_iinc X hx hby d25_25 (x := (11 : Int32)) rfl (by decide) (l' := #[.val (.ref a1), .val (.int p2), .val (.int (0 : Int32)), .val (.int (15 : Int32)), .val (.int (p2.toInt8.toInt32)), .val (.int (12 : Int32))]) rfl 28 rfl ?_
                          refine own_goto X hx hby d25_28 7 (by decide) ?_
                          refine own_iload X hx hby (12 : Int32) d25_7 rfl 9 rfl ?_
                          refine own_iloadN X hx hby (15 : Int32) d25_9 rfl 10 rfl ?_
                          have c10_13 : (12 : Int32) < (15 : Int32) := by decide
                          refine own_icmp_ge X hx hby d25_10 31 13 (by decide) rfl (fun q => absurd c10_13 q) (fun _ => ?_)
                          refine own_aloadN X hx hby (.ref a1) d25_13 rfl rfl 14 rfl ?_
                          refine own_iload X hx hby (12 : Int32) d25_14 rfl 16 rfl ?_
                          refine own_baload X hx hby hZ (ar_a1 12) eT A_a1 (by decide) rfl d25_16 17 rfl ?_
                          refine own_iload X hx hby (p2.toInt8.toInt32) d25_17 rfl 19 rfl ?_
                          refine own_icmp_ne X hx hby d25_19 25 22 (by decide) rfl (fun c19_13 => ?_) (fun c19_13 => ?_)
                          · skip
                            refine own_iinc X hx hby d25_25 (x := (12 : Int32)) rfl (by decide) (l' := #[.val (.ref a1), .val (.int p2), .val (.int (0 : Int32)), .val (.int (15 : Int32)), .val (.int (p2.toInt8.toInt32)), .val (.int (13 : Int32))]) rfl 28 rfl ?_
                            refine own_goto X hx hby d25_28 7 (by decide) ?_
                            refine own_iload X hx hby (13 : Int32) d25_7 rfl 9 rfl ?_
                            refine own_iloadN X hx hby (15 : Int32) d25_9 rfl 10 rfl ?_
                            have c10_14 : (13 : Int32) < (15 : Int32) := by decide
                            refine own_icmp_ge X hx hby d25_10 31 13 (by decide) rfl (fun q => absurd c10_14 q) (fun _ => ?_)
                            refine own_aloadN X hx hby (.ref a1) d25_13 rfl rfl 14 rfl ?_
                            refine own_iload X hx hby (13 : Int32) d25_14 rfl 16 rfl ?_
                            refine own_baload X hx hby hZ (ar_a1 13) eT A_a1 (by decide) rfl d25_16 17 rfl ?_
                            refine own_iload X hx hby (p2.toInt8.toInt32) d25_17 rfl 19 rfl ?_
                            refine own_icmp_ne X hx hby d25_19 25 22 (by decide) rfl (fun c19_14 => ?_) (fun c19_14 => ?_)
                            · skip
                              refine own_iinc X hx hby d25_25 (x := (13 : Int32)) rfl (by decide) (l' := #[.val (.ref a1), .val (.int p2), .val (.int (0 : Int32)), .val (.int (15 : Int32)), .val (.int (p2.toInt8.toInt32)), .val (.int (14 : Int32))]) rfl 28 rfl ?_
                              refine own_goto X hx hby d25_28 7 (by decide) ?_
                              refine own_iload X hx hby (14 : Int32) d25_7 rfl 9 rfl ?_
                              refine own_iloadN X hx hby (15 : Int32) d25_9 rfl 10 rfl ?_
                              have c10_15 : (14 : Int32) < (15 : Int32) := by decide
                              refine own_icmp_ge X hx hby d25_10 31 13 (by decide) rfl (fun q => absurd c10_15 q) (fun _ => ?_)
                              refine own_aloadN X hx hby (.ref a1) d25_13 rfl rfl 14 rfl ?_
                              refine own_iload X hx hby (14 : Int32) d25_14 rfl 16 rfl ?_
                              refine own_baload X hx hby hZ (ar_a1 14) eT A_a1 (by decide) rfl d25_16 17 rfl ?_
                              refine own_iload X hx hby (p2.toInt8.toInt32) d25_17 rfl 19 rfl ?_
                              refine own_icmp_ne X hx hby d25_19 25 22 (by decide) rfl (fun c19_15 => ?_) (fun c19_15 => ?_)
                              · skip
                                refine own_iinc X hx hby d25_25 (x := (14 : Int32)) rfl (by decide) (l' := #[.val (.ref a1), .val (.int p2), .val (.int (0 : Int32)), .val (.int (15 : Int32)), .val (.int (p2.toInt8.toInt32)), .val (.int (15 : Int32))]) rfl 28 rfl ?_
                                refine own_goto X hx hby d25_28 7 (by decide) ?_
                                refine own_iload X hx hby (15 : Int32) d25_7 rfl 9 rfl ?_
                                refine own_iloadN X hx hby (15 : Int32) d25_9 rfl 10 rfl ?_
                                have c10_16 : ¬ (15 : Int32) < (15 : Int32) := by decide
                                refine own_icmp_ge X hx hby d25_10 31 13 (by decide) rfl (fun _ => ?_) (fun q => absurd q c10_16)
                                refine own_iconst X hx hby (-1 : Int32) d25_31 rfl 32 rfl ?_
                                refine own_retI X hx hby hret hlk d25_32 (by decide) (by decide) ?_
                                rw [eT]
                                exact ⟨congrArg (fun z => some (Value.int z)) (by unfold f25; rw [if_neg c19, if_neg c19_2, if_neg c19_3, if_neg c19_4, if_neg c19_5, if_neg c19_6, if_neg c19_7, if_neg c19_8, if_neg c19_9, if_neg c19_10, if_neg c19_11, if_neg c19_12, if_neg c19_13, if_neg c19_14, if_neg c19_15]), N, rfl⟩
                              · skip
                                refine own_iload X hx hby (14 : Int32) d25_22 rfl 24 rfl ?_
                                refine own_retI X hx hby hret hlk d25_24 (by decide) (by decide) ?_
                                rw [eT]
                                exact ⟨congrArg (fun z => some (Value.int z)) (by unfold f25; rw [if_neg c19, if_neg c19_2, if_neg c19_3, if_neg c19_4, if_neg c19_5, if_neg c19_6, if_neg c19_7, if_neg c19_8, if_neg c19_9, if_neg c19_10, if_neg c19_11, if_neg c19_12, if_neg c19_13, if_neg c19_14, if_pos c19_15]), N, rfl⟩
                            · skip
                              refine own_iload X hx hby (13 : Int32) d25_22 rfl 24 rfl ?_
                              refine own_retI X hx hby hret hlk d25_24 (by decide) (by decide) ?_
                              rw [eT]
                              exact ⟨congrArg (fun z => some (Value.int z)) (by unfold f25; rw [if_neg c19, if_neg c19_2, if_neg c19_3, if_neg c19_4, if_neg c19_5, if_neg c19_6, if_neg c19_7, if_neg c19_8, if_neg c19_9, if_neg c19_10, if_neg c19_11, if_neg c19_12, if_neg c19_13, if_pos c19_14]), N, rfl⟩
                          · skip
                            refine own_iload X hx hby (12 : Int32) d25_22 rfl 24 rfl ?_
                            refine own_retI X hx hby hret hlk d25_24 (by decide) (by decide) ?_
                            rw [eT]
                            exact ⟨congrArg (fun z => some (Value.int z)) (by unfold f25; rw [if_neg c19, if_neg c19_2, if_neg c19_3, if_neg c19_4, if_neg c19_5, if_neg c19_6, if_neg c19_7, if_neg c19_8, if_neg c19_9, if_neg c19_10, if_neg c19_11, if_neg c19_12, if_pos c19_13]), N, rfl⟩
                        · skip
                          refine own_iload X hx hby (11 : Int32) d25_22 rfl 24 rfl ?_
                          refine own_retI X hx hby hret hlk d25_24 (by decide) (by decide) ?_
                          rw [eT]
                          exact ⟨congrArg (fun z => some (Value.int z)) (by unfold f25; rw [if_neg c19, if_neg c19_2, if_neg c19_3, if_neg c19_4, if_neg c19_5, if_neg c19_6, if_neg c19_7, if_neg c19_8, if_neg c19_9, if_neg c19_10, if_neg c19_11, if_pos c19_12]), N, rfl⟩
                      · skip
                        refine own_iload X hx hby (10 : Int32) d25_22 rfl 24 rfl ?_
                        refine own_retI X hx hby hret hlk d25_24 (by decide) (by decide) ?_
                        rw [eT]
                        exact ⟨congrArg (fun z => some (Value.int z)) (by unfold f25; rw [if_neg c19, if_neg c19_2, if_neg c19_3, if_neg c19_4, if_neg c19_5, if_neg c19_6, if_neg c19_7, if_neg c19_8, if_neg c19_9, if_neg c19_10, if_pos c19_11]), N, rfl⟩
                    · skip
                      refine own_iload X hx hby (9 : Int32) d25_22 rfl 24 rfl ?_
                      refine own_retI X hx hby hret hlk d25_24 (by decide) (by decide) ?_
                      rw [eT]
                      exact ⟨congrArg (fun z => some (Value.int z)) (by unfold f25; rw [if_neg c19, if_neg c19_2, if_neg c19_3, if_neg c19_4, if_neg c19_5, if_neg c19_6, if_neg c19_7, if_neg c19_8, if_neg c19_9, if_pos c19_10]), N, rfl⟩
                  · skip
                    refine own_iload X hx hby (8 : Int32) d25_22 rfl 24 rfl ?_
                    refine own_retI X hx hby hret hlk d25_24 (by decide) (by decide) ?_
                    rw [eT]
                    exact ⟨congrArg (fun z => some (Value.int z)) (by unfold f25; rw [if_neg c19, if_neg c19_2, if_neg c19_3, if_neg c19_4, if_neg c19_5, if_neg c19_6, if_neg c19_7, if_neg c19_8, if_pos c19_9]), N, rfl⟩
                · skip
                  refine own_iload X hx hby (7 : Int32) d25_22 rfl 24 rfl ?_
                  refine own_retI X hx hby hret hlk d25_24 (by decide) (by decide) ?_
                  rw [eT]
                  exact ⟨congrArg (fun z => some (Value.int z)) (by unfold f25; rw [if_neg c19, if_neg c19_2, if_neg c19_3, if_neg c19_4, if_neg c19_5, if_neg c19_6, if_neg c19_7, if_pos c19_8]), N, rfl⟩
              · skip
                refine own_iload X hx hby (6 : Int32) d25_22 rfl 24 rfl ?_
                refine own_retI X hx hby hret hlk d25_24 (by decide) (by decide) ?_
                rw [eT]
                exact ⟨congrArg (fun z => some (Value.int z)) (by unfold f25; rw [if_neg c19, if_neg c19_2, if_neg c19_3, if_neg c19_4, if_neg c19_5, if_neg c19_6, if_pos c19_7]), N, rfl⟩
            · skip
              refine own_iload X hx hby (5 : Int32) d25_22 rfl 24 rfl ?_
              refine own_retI X hx hby hret hlk d25_24 (by decide) (by decide) ?_
              rw [eT]
              exact ⟨congrArg (fun z => some (Value.int z)) (by unfold f25; rw [if_neg c19, if_neg c19_2, if_neg c19_3, if_neg c19_4, if_neg c19_5, if_pos c19_6]), N, rfl⟩
          · skip
            refine own_iload X hx hby (4 : Int32) d25_22 rfl 24 rfl ?_
            refine own_retI X hx hby hret hlk d25_24 (by decide) (by decide) ?_
            rw [eT]
            exact ⟨congrArg (fun z => some (Value.int z)) (by unfold f25; rw [if_neg c19, if_neg c19_2, if_neg c19_3, if_neg c19_4, if_pos c19_5]), N, rfl⟩
        · skip
          refine own_iload X hx hby (3 : Int32) d25_22 rfl 24 rfl ?_
          refine own_retI X hx hby hret hlk d25_24 (by decide) (by decide) ?_
          rw [eT]
          exact ⟨congrArg (fun z => some (Value.int z)) (by unfold f25; rw [if_neg c19, if_neg c19_2, if_neg c19_3, if_pos c19_4]), N, rfl⟩
      · skip
        refine own_iload X hx hby (2 : Int32) d25_22 rfl 24 rfl ?_
        refine own_retI X hx hby hret hlk d25_24 (by decide) (by decide) ?_
        rw [eT]
        exact ⟨congrArg (fun z => some (Value.int z)) (by unfold f25; rw [if_neg c19, if_neg c19_2, if_pos c19_3]), N, rfl⟩
    · skip
      refine own_iload X hx hby (1 : Int32) d25_22 rfl 24 rfl ?_
      refine own_retI X hx hby hret hlk d25_24 (by decide) (by decide) ?_
      rw [eT]
      exact ⟨congrArg (fun z => some (Value.int z)) (by unfold f25; rw [if_neg c19, if_pos c19_2]), N, rfl⟩
  · skip
    refine own_iload X hx hby (0 : Int32) d25_22 rfl 24 rfl ?_
    refine own_retI X hx hby hret hlk d25_24 (by decide) (by decide) ?_
    rw [eT]
    exact ⟨congrArg (fun z => some (Value.int z)) (by unfold f25; rw [if_pos c19]), N, rfl⟩
theorem ef_21 (a1 : Addr) (p2 : Int32) (m : MethodId) : entryFrame m #[(.ref a1), (.int p2), (.int (0 : Int32)), (.int (15 : Int32))] 4 = mkF m 0 #[.val (.ref a1), .val (.int p2), .val (.int (0 : Int32)), .val (.int (15 : Int32))] [] := by first | (simp [entryFrame, mkF, argsToLocals, Value.category]; done) | rfl
def f21 (p2 : Int32) (ar_a1 : Nat → Int32) : Int32 := (if (f22 p2) = (0 : Int32) then (-1 : Int32) else (f25 p2 ar_a1))
def Q21 (Z : State) (a1 : Addr) (p2 : Int32) (ar_a1 : Nat → Int32) (h0 : Heap) (n0 : Nat) (v : Option Value) (h : Heap) (L : List Loc) : Prop := v = some (.int (f21 p2 ar_a1)) ∧ Fr n0 L ∧ h = h0
set_option maxRecDepth 65536 in
set_option maxHeartbeats 40000000 in
theorem rm21 (l : Launch) (Z : State) (a0 : Array Value) (hw : ∀ d ∈ tables_1, d.before a0 Z = true) (a1 : Addr) (p2 : Int32) (ar_a1 : Nat → Int32) (h0 : Heap) (n0 : Nat) (Zs : n0 ≤ h0.size) (A_a1 : Afi Z h0 a1 .byte 15 ar_a1) :
    Met1 l Z (⟨"java/lang/StringLatin1", "indexOf", "([BIII)I"⟩ : MethodName) jdk_43_method_22_code 4 (some .int) ({ frames := 1, cells := 0, slots := 0, locals := 17 } : Room) #[(.ref a1), (.int p2), (.int (0 : Int32)), (.int (15 : Int32))] h0 (Q21 Z a1 p2 ar_a1 h0 n0) := by
  refine own_met_of (plainFor_of_name pn_22) (ef_21 a1 p2) ?_
  intro p e s m below meth c s₁ X hx hby hml hZ hown hnm hret hlk eT
  have hown : s.vm.findClass "java/lang/StringLatin1" = some m.cls := hown
  have N := Fr.nil n0
  refine own_iloadN X hx hby p2 d21_0 rfl 1 rfl ?_
  refine own_callS X hx hby hZ (st := []) [(.int p2)] rfl hown (hw _ (List.mem_of_getElem? (i := 101) rfl)) (hw _ (List.mem_of_getElem? (i := 102) rfl)) (hw _ (List.mem_of_getElem? (i := 73) rfl)) (hw _ (List.mem_of_getElem? (i := 103) rfl)) (by decide) d21_1 (rm22 l Z a0 hw p2 h0 n0 Zs ) eT pd_7 rfl (by rw [hml]; rfl) (by decide) 0 rfl (by decide) (by decide) (by decide) 4 rfl ?_
  intro T1 L9 v9 X hQ
  obtain ⟨rfl, N9, eT⟩ := hQ
  have N := Fr.app N N9
  show Go p e below _ T1 (mkF m 4 #[.val (.ref a1), .val (.int p2), .val (.int (0 : Int32)), .val (.int (15 : Int32))] [(.int (f22 p2))])
  refine own_if_ne X hx hby d21_4 9 7 (by decide) rfl (fun c4 => ?_) (fun c4 => ?_)
  · skip
    refine own_iloadN X hx hby (0 : Int32) d21_9 rfl 10 rfl ?_
    refine own_iconst X hx hby (0 : Int32) d21_10 rfl 11 rfl ?_
    refine own_callS X hx hby hZ (st := []) [(.int (0 : Int32)), (.int (0 : Int32))] rfl hown (hw _ (List.mem_of_getElem? (i := 104) rfl)) (hw _ (List.mem_of_getElem? (i := 105) rfl)) (hw _ (List.mem_of_getElem? (i := 106) rfl)) (hw _ (List.mem_of_getElem? (i := 107) rfl)) (by decide) d21_11 (rm23 l Z a0 hw  h0 n0 Zs ) eT pd_9 rfl (by rw [hml]; rfl) (by decide) 0 rfl (by decide) (by decide) (by decide) 14 rfl ?_
    intro T11 L9 v9 X hQ
    obtain ⟨rfl, N9, eT⟩ := hQ
    have N := Fr.app N N9
    show Go p e below _ T11 (mkF m 14 #[.val (.ref a1), .val (.int p2), .val (.int (0 : Int32)), .val (.int (15 : Int32))] [(.int (0 : Int32))])
    refine own_istoreN X hx hby d21_14 rfl (l' := #[.val (.ref a1), .val (.int p2), .val (.int (0 : Int32)), .val (.int (15 : Int32))]) rfl 15 rfl ?_
    refine own_iloadN X hx hby (15 : Int32) d21_15 rfl 16 rfl ?_
    refine own_aloadN X hx hby (.ref a1) d21_16 rfl rfl 17 rfl ?_
    refine own_arraylength X hx hby hZ (15 : Int32) eT A_a1 rfl d21_17 18 rfl ?_
    refine own_callS X hx hby hZ (st := []) [(.int (15 : Int32)), (.int (15 : Int32))] rfl hown (hw _ (List.mem_of_getElem? (i := 108) rfl)) (hw _ (List.mem_of_getElem? (i := 109) rfl)) (hw _ (List.mem_of_getElem? (i := 106) rfl)) (hw _ (List.mem_of_getElem? (i := 110) rfl)) (by decide) d21_18 (rm24 l Z a0 hw  h0 n0 Zs ) eT pd_9 rfl (by rw [hml]; rfl) (by decide) 0 rfl (by decide) (by decide) (by decide) 21 rfl ?_
    intro T18 L9 v9 X hQ
    obtain ⟨rfl, N9, eT⟩ := hQ
    have N := Fr.app N N9
    show Go p e below _ T18 (mkF m 21 #[.val (.ref a1), .val (.int p2), .val (.int (0 : Int32)), .val (.int (15 : Int32))] [(.int (15 : Int32))])
    refine own_istoreN X hx hby d21_21 rfl (l' := #[.val (.ref a1), .val (.int p2), .val (.int (0 : Int32)), .val (.int (15 : Int32))]) rfl 22 rfl ?_
    refine own_iloadN X hx hby (0 : Int32) d21_22 rfl 23 rfl ?_
    refine own_iloadN X hx hby (15 : Int32) d21_23 rfl 24 rfl ?_
    have c24 : (0 : Int32) < (15 : Int32) := by decide
    refine own_icmp_lt X hx hby d21_24 29 27 (by decide) rfl (fun _ => ?_) (fun q => absurd c24 q)
    refine own_aloadN X hx hby (.ref a1) d21_29 rfl rfl 30 rfl ?_
    refine own_iloadN X hx hby p2 d21_30 rfl 31 rfl ?_
    refine own_iloadN X hx hby (0 : Int32) d21_31 rfl 32 rfl ?_
    refine own_iloadN X hx hby (15 : Int32) d21_32 rfl 33 rfl ?_
    refine own_callS X hx hby hZ (st := []) [(.ref a1), (.int p2), (.int (0 : Int32)), (.int (15 : Int32))] rfl hown (hw _ (List.mem_of_getElem? (i := 111) rfl)) (hw _ (List.mem_of_getElem? (i := 112) rfl)) (hw _ (List.mem_of_getElem? (i := 73) rfl)) (hw _ (List.mem_of_getElem? (i := 113) rfl)) (by decide) d21_33 (rm25 l Z a0 hw a1 p2 ar_a1 h0 n0 Zs A_a1) eT pd_18 rfl (by rw [hml]; rfl) (by decide) 0 rfl (by decide) (by decide) (by decide) 36 rfl ?_
    intro T33 L9 v9 X hQ
    obtain ⟨rfl, N9, eT⟩ := hQ
    have N := Fr.app N N9
    show Go p e below _ T33 (mkF m 36 #[.val (.ref a1), .val (.int p2), .val (.int (0 : Int32)), .val (.int (15 : Int32))] [(.int (f25 p2 ar_a1))])
    refine own_retI X hx hby hret hlk d21_36 (by decide) (by decide) ?_
    rw [eT]
    exact ⟨congrArg (fun z => some (Value.int z)) (by unfold f21; rw [if_neg c4]), N, rfl⟩
  · skip
    refine own_iconst X hx hby (-1 : Int32) d21_7 rfl 8 rfl ?_
    refine own_retI X hx hby hret hlk d21_8 (by decide) (by decide) ?_
    rw [eT]
    exact ⟨congrArg (fun z => some (Value.int z)) (by unfold f21; rw [if_pos c4]), N, rfl⟩
theorem ef_12_l (a1 : Addr) (m : MethodId) : entryFrame m #[(.ref a1)] 1 = mkF m 0 #[.val (.ref a1)] [] := by first | (simp [entryFrame, mkF, argsToLocals, Value.category]; done) | rfl
def Q12_l (Z : State) (a1 : Addr) (u_COMPACT_STRINGS : Int32) (h0 : Heap) (n0 : Nat) (v : Option Value) (h : Heap) (L : List Loc) : Prop := v = some (.int (0 : Int32)) ∧ Fr n0 L ∧ h = h0
set_option maxRecDepth 65536 in
set_option maxHeartbeats 40000000 in
theorem rm12_l (l : Launch) (Z : State) (a0 : Array Value) (hw : ∀ d ∈ tables_1, d.before a0 Z = true) (a1 : Addr) (u_COMPACT_STRINGS : Int32) (h0 : Heap) (n0 : Nat) (Zs : n0 ≤ h0.size) (hcs : ¬ u_COMPACT_STRINGS = (0 : Int32)) (S_COMPACT_STRINGS : Sta Z h0 "java/lang/String" "COMPACT_STRINGS" "Z" (.int u_COMPACT_STRINGS)) (F_coder_a1 : Fld Z h0 a1 "java/lang/String" "coder" "B" (.int (0 : Int32))) :
    Met1 l Z (⟨"java/lang/String", "coder", "()B"⟩ : MethodName) jdk_42_method_152_code 1 (some .byte) ({ frames := 0, cells := 0, slots := 0, locals := 0 } : Room) #[(.ref a1)] h0 (Q12_l Z a1 u_COMPACT_STRINGS h0 n0) := by
  refine own_met_of (plainFor_of_name pn_12) (ef_12_l a1) ?_
  intro p e s m below meth c s₁ X hx hby hml hZ hown hnm hret hlk eT
  have hown : s.vm.findClass "java/lang/String" = some m.cls := hown
  have N := Fr.nil n0
  refine own_getS X hx hby hZ hown (host := "") (Or.inl (hw _ (List.mem_of_getElem? (i := 37) rfl))) Via.refl eT S_COMPACT_STRINGS d12_0 3 rfl ?_
  intro T0 X eT
  have c3 : ¬ u_COMPACT_STRINGS = (0 : Int32) := hcs
  refine own_if_eq X hx hby d12_3 13 6 (by decide) rfl (fun q => absurd q c3) (fun _ => ?_)
  refine own_aloadN X hx hby (.ref a1) d12_6 rfl rfl 7 rfl ?_
  refine own_getF X hx hby hZ hown (host := "") (Or.inl (hw _ (List.mem_of_getElem? (i := 27) rfl))) Via.refl eT F_coder_a1 d12_7 10 rfl ?_
  intro T7 X eT
  refine own_goto X hx hby d12_10 14 (by decide) ?_
  refine own_retN X hx hby hret hlk (t := .byte) (z' := (0 : Int32)) (by simp) d12_14 (by decide) (by decide) rfl ?_
  rw [eT]
  exact ⟨rfl, N, rfl⟩
theorem ef_12_s (a1 : Addr) (m : MethodId) : entryFrame m #[(.ref a1)] 1 = mkF m 0 #[.val (.ref a1)] [] := by first | (simp [entryFrame, mkF, argsToLocals, Value.category]; done) | rfl
def Q12_s (Z : State) (a1 : Addr) (u_COMPACT_STRINGS : Int32) (w_coder_a1 : Int32) (h0 : Heap) (n0 : Nat) (v : Option Value) (h : Heap) (L : List Loc) : Prop := v = some (.int (nar .byte w_coder_a1)) ∧ Fr n0 L ∧ h = h0
set_option maxRecDepth 65536 in
set_option maxHeartbeats 40000000 in
theorem rm12_s (l : Launch) (Z : State) (a0 : Array Value) (hw : ∀ d ∈ tables_1, d.before a0 Z = true) (a1 : Addr) (u_COMPACT_STRINGS : Int32) (w_coder_a1 : Int32) (h0 : Heap) (n0 : Nat) (Zs : n0 ≤ h0.size) (hcs : ¬ u_COMPACT_STRINGS = (0 : Int32)) (S_COMPACT_STRINGS : Sta Z h0 "java/lang/String" "COMPACT_STRINGS" "Z" (.int u_COMPACT_STRINGS)) (F_coder_a1 : Fld Z h0 a1 "java/lang/String" "coder" "B" (.int w_coder_a1)) :
    Met1 l Z (⟨"java/lang/String", "coder", "()B"⟩ : MethodName) jdk_42_method_152_code 1 (some .byte) ({ frames := 0, cells := 0, slots := 0, locals := 0 } : Room) #[(.ref a1)] h0 (Q12_s Z a1 u_COMPACT_STRINGS w_coder_a1 h0 n0) := by
  refine own_met_of (plainFor_of_name pn_12) (ef_12_s a1) ?_
  intro p e s m below meth c s₁ X hx hby hml hZ hown hnm hret hlk eT
  have hown : s.vm.findClass "java/lang/String" = some m.cls := hown
  have N := Fr.nil n0
  refine own_getS X hx hby hZ hown (host := "") (Or.inl (hw _ (List.mem_of_getElem? (i := 37) rfl))) Via.refl eT S_COMPACT_STRINGS d12_0 3 rfl ?_
  intro T0 X eT
  have c3 : ¬ u_COMPACT_STRINGS = (0 : Int32) := hcs
  refine own_if_eq X hx hby d12_3 13 6 (by decide) rfl (fun q => absurd q c3) (fun _ => ?_)
  refine own_aloadN X hx hby (.ref a1) d12_6 rfl rfl 7 rfl ?_
  refine own_getF X hx hby hZ hown (host := "") (Or.inl (hw _ (List.mem_of_getElem? (i := 27) rfl))) Via.refl eT F_coder_a1 d12_7 10 rfl ?_
  intro T7 X eT
  refine own_goto X hx hby d12_10 14 (by decide) ?_
  refine own_retN X hx hby hret hlk (t := .byte) (z' := (nar .byte w_coder_a1)) (by simp) d12_14 (by decide) (by decide) rfl ?_
  rw [eT]
  exact ⟨rfl, N, rfl⟩
theorem ef_14_0 (a1 : Addr) (m : MethodId) : entryFrame m #[(.ref a1)] 1 = mkF m 0 #[.val (.ref a1)] [] := by first | (simp [entryFrame, mkF, argsToLocals, Value.category]; done) | rfl
def Q14_0 (Z : State) (a1 : Addr) (u_COMPACT_STRINGS : Int32) (h0 : Heap) (n0 : Nat) (v : Option Value) (h : Heap) (L : List Loc) : Prop := v = some (.int (1 : Int32)) ∧ Fr n0 L ∧ h = h0
set_option maxRecDepth 65536 in
set_option maxHeartbeats 40000000 in
theorem rm14_0 (l : Launch) (Z : State) (a0 : Array Value) (hw : ∀ d ∈ tables_1, d.before a0 Z = true) (a1 : Addr) (u_COMPACT_STRINGS : Int32) (h0 : Heap) (n0 : Nat) (Zs : n0 ≤ h0.size) (hcs : ¬ u_COMPACT_STRINGS = (0 : Int32)) (S_COMPACT_STRINGS : Sta Z h0 "java/lang/String" "COMPACT_STRINGS" "Z" (.int u_COMPACT_STRINGS)) (F_coder_a1 : Fld Z h0 a1 "java/lang/String" "coder" "B" (.int (0 : Int32))) :
    Met1 l Z (⟨"java/lang/String", "isLatin1", "()Z"⟩ : MethodName) jdk_42_method_154_code 1 (some .boolean) ({ frames := 0, cells := 0, slots := 0, locals := 0 } : Room) #[(.ref a1)] h0 (Q14_0 Z a1 u_COMPACT_STRINGS h0 n0) := by
  refine own_met_of (plainFor_of_name pn_12) (ef_14_0 a1) ?_
  intro p e s m below meth c s₁ X hx hby hml hZ hown hnm hret hlk eT
  have hown : s.vm.findClass "java/lang/String" = some m.cls := hown
  have N := Fr.nil n0
  refine own_getS X hx hby hZ hown (host := "") (Or.inl (hw _ (List.mem_of_getElem? (i := 37) rfl))) Via.refl eT S_COMPACT_STRINGS d14_0 3 rfl ?_
  intro T0 X eT
  have c3 : ¬ u_COMPACT_STRINGS = (0 : Int32) := hcs
  refine own_if_eq X hx hby d14_3 17 6 (by decide) rfl (fun q => absurd q c3) (fun _ => ?_)
  refine own_aloadN X hx hby (.ref a1) d14_6 rfl rfl 7 rfl ?_
  refine own_getF X hx hby hZ hown (host := "") (Or.inl (hw _ (List.mem_of_getElem? (i := 27) rfl))) Via.refl eT F_coder_a1 d14_7 10 rfl ?_
  intro T7 X eT
  have c10 : (0 : Int32) = (0 : Int32) := by decide
  refine own_if_ne X hx hby d14_10 17 13 (by decide) rfl (fun q => absurd c10 q) (fun _ => ?_)
  refine own_iconst X hx hby (1 : Int32) d14_13 rfl 14 rfl ?_
  refine own_goto X hx hby d14_14 18 (by decide) ?_
  refine own_retN X hx hby hret hlk (t := .boolean) (z' := (1 : Int32)) (by simp) d14_18 (by decide) (by decide) rfl ?_
  rw [eT]
  exact ⟨rfl, N, rfl⟩
theorem ef_14_1 (a1 : Addr) (m : MethodId) : entryFrame m #[(.ref a1)] 1 = mkF m 0 #[.val (.ref a1)] [] := by first | (simp [entryFrame, mkF, argsToLocals, Value.category]; done) | rfl
def Q14_1 (Z : State) (a1 : Addr) (u_COMPACT_STRINGS : Int32) (h0 : Heap) (n0 : Nat) (v : Option Value) (h : Heap) (L : List Loc) : Prop := v = some (.int (0 : Int32)) ∧ Fr n0 L ∧ h = h0
set_option maxRecDepth 65536 in
set_option maxHeartbeats 40000000 in
theorem rm14_1 (l : Launch) (Z : State) (a0 : Array Value) (hw : ∀ d ∈ tables_1, d.before a0 Z = true) (a1 : Addr) (u_COMPACT_STRINGS : Int32) (h0 : Heap) (n0 : Nat) (Zs : n0 ≤ h0.size) (hcs : ¬ u_COMPACT_STRINGS = (0 : Int32)) (S_COMPACT_STRINGS : Sta Z h0 "java/lang/String" "COMPACT_STRINGS" "Z" (.int u_COMPACT_STRINGS)) (F_coder_a1 : Fld Z h0 a1 "java/lang/String" "coder" "B" (.int (1 : Int32))) :
    Met1 l Z (⟨"java/lang/String", "isLatin1", "()Z"⟩ : MethodName) jdk_42_method_154_code 1 (some .boolean) ({ frames := 0, cells := 0, slots := 0, locals := 0 } : Room) #[(.ref a1)] h0 (Q14_1 Z a1 u_COMPACT_STRINGS h0 n0) := by
  refine own_met_of (plainFor_of_name pn_12) (ef_14_1 a1) ?_
  intro p e s m below meth c s₁ X hx hby hml hZ hown hnm hret hlk eT
  have hown : s.vm.findClass "java/lang/String" = some m.cls := hown
  have N := Fr.nil n0
  refine own_getS X hx hby hZ hown (host := "") (Or.inl (hw _ (List.mem_of_getElem? (i := 37) rfl))) Via.refl eT S_COMPACT_STRINGS d14_0 3 rfl ?_
  intro T0 X eT
  have c3 : ¬ u_COMPACT_STRINGS = (0 : Int32) := hcs
  refine own_if_eq X hx hby d14_3 17 6 (by decide) rfl (fun q => absurd q c3) (fun _ => ?_)
  refine own_aloadN X hx hby (.ref a1) d14_6 rfl rfl 7 rfl ?_
  refine own_getF X hx hby hZ hown (host := "") (Or.inl (hw _ (List.mem_of_getElem? (i := 27) rfl))) Via.refl eT F_coder_a1 d14_7 10 rfl ?_
  intro T7 X eT
  have c10 : ¬ (1 : Int32) = (0 : Int32) := by decide
  refine own_if_ne X hx hby d14_10 17 13 (by decide) rfl (fun _ => ?_) (fun q => absurd q c10)
  refine own_iconst X hx hby (0 : Int32) d14_17 rfl 18 rfl ?_
  refine own_retN X hx hby hret hlk (t := .boolean) (z' := (0 : Int32)) (by simp) d14_18 (by decide) (by decide) rfl ?_
  rw [eT]
  exact ⟨rfl, N, rfl⟩
theorem ef_11_15 (a1 : Addr) (m : MethodId) : entryFrame m #[(.ref a1)] 1 = mkF m 0 #[.val (.ref a1)] [] := by first | (simp [entryFrame, mkF, argsToLocals, Value.category]; done) | rfl
def Q11_15 (Z : State) (a1 : Addr) (r1 : Addr) (ar_r1 : Nat → Int32) (u_COMPACT_STRINGS : Int32) (h0 : Heap) (n0 : Nat) (v : Option Value) (h : Heap) (L : List Loc) : Prop := v = some (.int (15 : Int32)) ∧ Fr n0 L ∧ h = h0
set_option maxRecDepth 65536 in
set_option maxHeartbeats 40000000 in
theorem rm11_15 (l : Launch) (Z : State) (a0 : Array Value) (hw : ∀ d ∈ tables_1, d.before a0 Z = true) (a1 : Addr) (r1 : Addr) (ar_r1 : Nat → Int32) (u_COMPACT_STRINGS : Int32) (h0 : Heap) (n0 : Nat) (Zs : n0 ≤ h0.size) (hcs : ¬ u_COMPACT_STRINGS = (0 : Int32)) (A_r1 : Afi Z h0 r1 .byte 15 ar_r1) (F_value_a1 : Fld Z h0 a1 "java/lang/String" "value" "[B" (.ref r1)) (F_coder_a1 : Fld Z h0 a1 "java/lang/String" "coder" "B" (.int (0 : Int32))) (S_COMPACT_STRINGS : Sta Z h0 "java/lang/String" "COMPACT_STRINGS" "Z" (.int u_COMPACT_STRINGS)) (E_a1 : Exa Z h0 a1 "java/lang/String") :
    Met1 l Z (⟨"java/lang/String", "length", "()I"⟩ : MethodName) jdk_42_method_54_code 1 (some .int) ({ frames := 1, cells := 0, slots := 0, locals := 13 } : Room) #[(.ref a1)] h0 (Q11_15 Z a1 r1 ar_r1 u_COMPACT_STRINGS h0 n0) := by
  refine own_met_of (plainFor_of_name pn_12) (ef_11_15 a1) ?_
  intro p e s m below meth c s₁ X hx hby hml hZ hown hnm hret hlk eT
  have hown : s.vm.findClass "java/lang/String" = some m.cls := hown
  have N := Fr.nil n0
  refine own_aloadN X hx hby (.ref a1) d11_0 rfl rfl 1 rfl ?_
  refine own_getF X hx hby hZ hown (host := "") (Or.inl (hw _ (List.mem_of_getElem? (i := 26) rfl))) Via.refl eT F_value_a1 d11_1 4 rfl ?_
  intro T1 X eT
  refine own_arraylength X hx hby hZ (15 : Int32) eT A_r1 rfl d11_4 5 rfl ?_
  refine own_aloadN X hx hby (.ref a1) d11_5 rfl rfl 6 rfl ?_
  refine own_callV X hx hby hZ (st := [(.int (15 : Int32))]) [] rfl hown (hw _ (List.mem_of_getElem? (i := 56) rfl)) (hw _ (List.mem_of_getElem? (i := 57) rfl)) (hw _ (List.mem_of_getElem? (i := 59) rfl)) (hw _ (List.mem_of_getElem? (i := 58) rfl)) (hw _ (List.mem_of_getElem? (i := 8) rfl)) (hw _ (List.mem_of_getElem? (i := 60) rfl)) E_a1 (by decide) d11_6 (rm12_l l Z a0 hw a1 u_COMPACT_STRINGS h0 n0 Zs hcs S_COMPACT_STRINGS F_coder_a1) eT pd_0 rfl (by rw [hml]; rfl) (by decide) 1 rfl (by decide) (by decide) (by decide) 9 rfl ?_
  intro T6 L9 v9 X hQ
  obtain ⟨rfl, N9, eT⟩ := hQ
  have N := Fr.app N N9
  show Go p e below _ T6 (mkF m 9 #[.val (.ref a1)] [(.int (0 : Int32)), (.int (15 : Int32))])
  refine own_ishr X hx hby d11_9 10 rfl ?_
  refine own_top (v' := (.int (15 : Int32))) (congrArg Value.int (by decide)) ?_
  refine own_retI X hx hby hret hlk d11_10 (by decide) (by decide) ?_
  rw [eT]
  exact ⟨rfl, N, rfl⟩
theorem ef_11_p (a1 : Addr) (m : MethodId) : entryFrame m #[(.ref a1)] 1 = mkF m 0 #[.val (.ref a1)] [] := by first | (simp [entryFrame, mkF, argsToLocals, Value.category]; done) | rfl
def Q11_p (Z : State) (a1 : Addr) (nn : Nat) (cc : Nat → Int32) (r1 : Addr) (ar_r1 : Nat → Int32) (n1 : Nat) (w_coder_a1 : Int32) (u_COMPACT_STRINGS : Int32) (h0 : Heap) (n0 : Nat) (v : Option Value) (h : Heap) (L : List Loc) : Prop := v = some (.int (Nat.toInt32 nn)) ∧ Fr n0 L ∧ h = h0
set_option maxRecDepth 65536 in
set_option maxHeartbeats 40000000 in
theorem rm11_p (l : Launch) (Z : State) (a0 : Array Value) (hw : ∀ d ∈ tables_1, d.before a0 Z = true) (a1 : Addr) (nn : Nat) (cc : Nat → Int32) (r1 : Addr) (ar_r1 : Nat → Int32) (n1 : Nat) (w_coder_a1 : Int32) (u_COMPACT_STRINGS : Int32) (h0 : Heap) (n0 : Nat) (Zs : n0 ≤ h0.size) (hcs : ¬ u_COMPACT_STRINGS = (0 : Int32)) (hstr : own_str nn cc w_coder_a1 n1 ar_r1) (hn4 : nn ≤ 4) (A_r1 : Afi Z h0 r1 .byte n1 ar_r1) (F_value_a1 : Fld Z h0 a1 "java/lang/String" "value" "[B" (.ref r1)) (F_coder_a1 : Fld Z h0 a1 "java/lang/String" "coder" "B" (.int w_coder_a1)) (S_COMPACT_STRINGS : Sta Z h0 "java/lang/String" "COMPACT_STRINGS" "Z" (.int u_COMPACT_STRINGS)) (E_a1 : Exa Z h0 a1 "java/lang/String") :
    Met1 l Z (⟨"java/lang/String", "length", "()I"⟩ : MethodName) jdk_42_method_54_code 1 (some .int) ({ frames := 1, cells := 0, slots := 0, locals := 13 } : Room) #[(.ref a1)] h0 (Q11_p Z a1 nn cc r1 ar_r1 n1 w_coder_a1 u_COMPACT_STRINGS h0 n0) := by
  refine own_met_of (plainFor_of_name pn_12) (ef_11_p a1) ?_
  intro p e s m below meth c s₁ X hx hby hml hZ hown hnm hret hlk eT
  have hown : s.vm.findClass "java/lang/String" = some m.cls := hown
  have N := Fr.nil n0
  refine own_aloadN X hx hby (.ref a1) d11_0 rfl rfl 1 rfl ?_
  refine own_getF X hx hby hZ hown (host := "") (Or.inl (hw _ (List.mem_of_getElem? (i := 26) rfl))) Via.refl eT F_value_a1 d11_1 4 rfl ?_
  intro T1 X eT
  refine own_arraylength X hx hby hZ (Nat.toInt32 n1) eT A_r1 rfl d11_4 5 rfl ?_
  refine own_aloadN X hx hby (.ref a1) d11_5 rfl rfl 6 rfl ?_
  refine own_callV X hx hby hZ (st := [(.int (Nat.toInt32 n1))]) [] rfl hown (hw _ (List.mem_of_getElem? (i := 56) rfl)) (hw _ (List.mem_of_getElem? (i := 57) rfl)) (hw _ (List.mem_of_getElem? (i := 59) rfl)) (hw _ (List.mem_of_getElem? (i := 58) rfl)) (hw _ (List.mem_of_getElem? (i := 8) rfl)) (hw _ (List.mem_of_getElem? (i := 60) rfl)) E_a1 (by decide) d11_6 (rm12_s l Z a0 hw a1 u_COMPACT_STRINGS w_coder_a1 h0 n0 Zs hcs S_COMPACT_STRINGS F_coder_a1) eT pd_0 rfl (by rw [hml]; rfl) (by decide) 1 rfl (by decide) (by decide) (by decide) 9 rfl ?_
  intro T6 L9 v9 X hQ
  obtain ⟨rfl, N9, eT⟩ := hQ
  have N := Fr.app N N9
  show Go p e below _ T6 (mkF m 9 #[.val (.ref a1)] [(.int (nar .byte w_coder_a1)), (.int (Nat.toInt32 n1))])
  refine own_ishr X hx hby d11_9 10 rfl ?_
  refine own_retI X hx hby hret hlk d11_10 (by decide) (by decide) ?_
  rw [eT]
  exact ⟨congrArg (fun z => some (Value.int z)) (own_len hstr hn4), N, rfl⟩
theorem ef_6_0 (a1 : Addr) (m : MethodId) : entryFrame m #[(.ref a1)] 1 = mkF m 0 #[.val (.ref a1)] [] := by first | (simp [entryFrame, mkF, argsToLocals, Value.category]; done) | rfl
def Q6_0 (Z : State) (a1 : Addr) (r1 : Addr) (ar_r1 : Nat → Int32) (h0 : Heap) (n0 : Nat) (v : Option Value) (h : Heap) (L : List Loc) : Prop := v = some (.int (1 : Int32)) ∧ Fr n0 L ∧ h = h0
set_option maxRecDepth 65536 in
set_option maxHeartbeats 40000000 in
theorem rm6_0 (l : Launch) (Z : State) (a0 : Array Value) (hw : ∀ d ∈ tables_1, d.before a0 Z = true) (a1 : Addr) (r1 : Addr) (ar_r1 : Nat → Int32) (h0 : Heap) (n0 : Nat) (Zs : n0 ≤ h0.size) (A_r1 : Afi Z h0 r1 .byte 0 ar_r1) (F_value_a1 : Fld Z h0 a1 "java/lang/String" "value" "[B" (.ref r1)) :
    Met1 l Z (⟨"java/lang/String", "isEmpty", "()Z"⟩ : MethodName) jdk_42_method_55_code 1 (some .boolean) ({ frames := 0, cells := 0, slots := 0, locals := 0 } : Room) #[(.ref a1)] h0 (Q6_0 Z a1 r1 ar_r1 h0 n0) := by
  refine own_met_of (plainFor_of_name pn_12) (ef_6_0 a1) ?_
  intro p e s m below meth c s₁ X hx hby hml hZ hown hnm hret hlk eT
  have hown : s.vm.findClass "java/lang/String" = some m.cls := hown
  have N := Fr.nil n0
  refine own_aloadN X hx hby (.ref a1) d6_0 rfl rfl 1 rfl ?_
  refine own_getF X hx hby hZ hown (host := "") (Or.inl (hw _ (List.mem_of_getElem? (i := 26) rfl))) Via.refl eT F_value_a1 d6_1 4 rfl ?_
  intro T1 X eT
  refine own_arraylength X hx hby hZ (0 : Int32) eT A_r1 rfl d6_4 5 rfl ?_
  have c5 : (0 : Int32) = (0 : Int32) := by decide
  refine own_if_ne X hx hby d6_5 12 8 (by decide) rfl (fun q => absurd c5 q) (fun _ => ?_)
  refine own_iconst X hx hby (1 : Int32) d6_8 rfl 9 rfl ?_
  refine own_goto X hx hby d6_9 13 (by decide) ?_
  refine own_retN X hx hby hret hlk (t := .boolean) (z' := (1 : Int32)) (by simp) d6_13 (by decide) (by decide) rfl ?_
  rw [eT]
  exact ⟨rfl, N, rfl⟩
theorem ef_6_p (a1 : Addr) (m : MethodId) : entryFrame m #[(.ref a1)] 1 = mkF m 0 #[.val (.ref a1)] [] := by first | (simp [entryFrame, mkF, argsToLocals, Value.category]; done) | rfl
def Q6_p (Z : State) (a1 : Addr) (r1 : Addr) (ar_r1 : Nat → Int32) (n1 : Nat) (h0 : Heap) (n0 : Nat) (v : Option Value) (h : Heap) (L : List Loc) : Prop := v = some (.int (0 : Int32)) ∧ Fr n0 L ∧ h = h0
set_option maxRecDepth 65536 in
set_option maxHeartbeats 40000000 in
theorem rm6_p (l : Launch) (Z : State) (a0 : Array Value) (hw : ∀ d ∈ tables_1, d.before a0 Z = true) (a1 : Addr) (r1 : Addr) (ar_r1 : Nat → Int32) (n1 : Nat) (h0 : Heap) (n0 : Nat) (Zs : n0 ≤ h0.size) (hne : ¬ (Nat.toInt32 n1) = (0 : Int32)) (A_r1 : Afi Z h0 r1 .byte n1 ar_r1) (F_value_a1 : Fld Z h0 a1 "java/lang/String" "value" "[B" (.ref r1)) :
    Met1 l Z (⟨"java/lang/String", "isEmpty", "()Z"⟩ : MethodName) jdk_42_method_55_code 1 (some .boolean) ({ frames := 0, cells := 0, slots := 0, locals := 0 } : Room) #[(.ref a1)] h0 (Q6_p Z a1 r1 ar_r1 n1 h0 n0) := by
  refine own_met_of (plainFor_of_name pn_12) (ef_6_p a1) ?_
  intro p e s m below meth c s₁ X hx hby hml hZ hown hnm hret hlk eT
  have hown : s.vm.findClass "java/lang/String" = some m.cls := hown
  have N := Fr.nil n0
  refine own_aloadN X hx hby (.ref a1) d6_0 rfl rfl 1 rfl ?_
  refine own_getF X hx hby hZ hown (host := "") (Or.inl (hw _ (List.mem_of_getElem? (i := 26) rfl))) Via.refl eT F_value_a1 d6_1 4 rfl ?_
  intro T1 X eT
  refine own_arraylength X hx hby hZ (Nat.toInt32 n1) eT A_r1 rfl d6_4 5 rfl ?_
  have c5 : ¬ (Nat.toInt32 n1) = (0 : Int32) := hne
  refine own_if_ne X hx hby d6_5 12 8 (by decide) rfl (fun _ => ?_) (fun q => absurd q c5)
  refine own_iconst X hx hby (0 : Int32) d6_12 rfl 13 rfl ?_
  refine own_retN X hx hby hret hlk (t := .boolean) (z' := (0 : Int32)) (by simp) d6_13 (by decide) (by decide) rfl ?_
  rw [eT]
  exact ⟨rfl, N, rfl⟩
theorem ef_17_z (p1 : Int32) (p2 : Int32) (m : MethodId) : entryFrame m #[(.int p1), (.int p2), .null] 3 = mkF m 0 #[.val (.int p1), .val (.int p2), .val .null] [] := by first | (simp [entryFrame, mkF, argsToLocals, Value.category]; done) | rfl
def Q17_z (Z : State) (p1 : Int32) (p2 : Int32) (h0 : Heap) (n0 : Nat) (v : Option Value) (h : Heap) (L : List Loc) : Prop := v = some (.int p1) ∧ Fr n0 L ∧ h = h0
set_option maxRecDepth 65536 in
set_option maxHeartbeats 40000000 in
theorem rm17_z (l : Launch) (Z : State) (a0 : Array Value) (hw : ∀ d ∈ tables_1, d.before a0 Z = true) (p1 : Int32) (p2 : Int32) (h0 : Heap) (n0 : Nat) (Zs : n0 ≤ h0.size) (hi : ¬ p1 < (0 : Int32)) (hj : p1 < p2) :
    Met1 l Z (⟨"jdk/internal/util/Preconditions", "checkIndex", "(IILjava/util/function/BiFunction;)I"⟩ : MethodName) jdk_41_method_11_code 3 (some .int) ({ frames := 0, cells := 0, slots := 0, locals := 0 } : Room) #[(.int p1), (.int p2), .null] h0 (Q17_z Z p1 p2 h0 n0) := by
  refine own_met_of (plainFor_of_name pn_17) (ef_17_z p1 p2) ?_
  intro p e s m below meth c s₁ X hx hby hml hZ hown hnm hret hlk eT
  have hown : s.vm.findClass "jdk/internal/util/Preconditions" = some m.cls := hown
  have N := Fr.nil n0
  refine own_iloadN X hx hby p1 d17_0 rfl 1 rfl ?_
  have c1 : ¬ p1 < (0 : Int32) := hi
  refine own_if_lt X hx hby d17_1 9 4 (by decide) rfl (fun q => absurd q c1) (fun _ => ?_)
  refine own_iloadN X hx hby p1 d17_4 rfl 5 rfl ?_
  refine own_iloadN X hx hby p2 d17_5 rfl 6 rfl ?_
  have c6 : p1 < p2 := hj
  refine own_icmp_lt X hx hby d17_6 16 9 (by decide) rfl (fun _ => ?_) (fun q => absurd c6 q)
  refine own_iloadN X hx hby p1 d17_16 rfl 17 rfl ?_
  refine own_retI X hx hby hret hlk d17_17 (by decide) (by decide) ?_
  rw [eT]
  exact ⟨rfl, N, rfl⟩
theorem ef_17 (p1 : Int32) (p2 : Int32) (a3 : Addr) (m : MethodId) : entryFrame m #[(.int p1), (.int p2), (.ref a3)] 3 = mkF m 0 #[.val (.int p1), .val (.int p2), .val (.ref a3)] [] := by first | (simp [entryFrame, mkF, argsToLocals, Value.category]; done) | rfl
def Q17 (Z : State) (p1 : Int32) (p2 : Int32) (a3 : Addr) (h0 : Heap) (n0 : Nat) (v : Option Value) (h : Heap) (L : List Loc) : Prop := v = some (.int p1) ∧ Fr n0 L ∧ h = h0
set_option maxRecDepth 65536 in
set_option maxHeartbeats 40000000 in
theorem rm17 (l : Launch) (Z : State) (a0 : Array Value) (hw : ∀ d ∈ tables_1, d.before a0 Z = true) (p1 : Int32) (p2 : Int32) (a3 : Addr) (h0 : Heap) (n0 : Nat) (Zs : n0 ≤ h0.size) (hi : ¬ p1 < (0 : Int32)) (hj : p1 < p2) :
    Met1 l Z (⟨"jdk/internal/util/Preconditions", "checkIndex", "(IILjava/util/function/BiFunction;)I"⟩ : MethodName) jdk_41_method_11_code 3 (some .int) ({ frames := 0, cells := 0, slots := 0, locals := 0 } : Room) #[(.int p1), (.int p2), (.ref a3)] h0 (Q17 Z p1 p2 a3 h0 n0) := by
  refine own_met_of (plainFor_of_name pn_17) (ef_17 p1 p2 a3) ?_
  intro p e s m below meth c s₁ X hx hby hml hZ hown hnm hret hlk eT
  have hown : s.vm.findClass "jdk/internal/util/Preconditions" = some m.cls := hown
  have N := Fr.nil n0
  refine own_iloadN X hx hby p1 d17_0 rfl 1 rfl ?_
  have c1 : ¬ p1 < (0 : Int32) := hi
  refine own_if_lt X hx hby d17_1 9 4 (by decide) rfl (fun q => absurd q c1) (fun _ => ?_)
  refine own_iloadN X hx hby p1 d17_4 rfl 5 rfl ?_
  refine own_iloadN X hx hby p2 d17_5 rfl 6 rfl ?_
  have c6 : p1 < p2 := hj
  refine own_icmp_lt X hx hby d17_6 16 9 (by decide) rfl (fun _ => ?_) (fun q => absurd c6 q)
  refine own_iloadN X hx hby p1 d17_16 rfl 17 rfl ?_
  refine own_retI X hx hby hret hlk d17_17 (by decide) (by decide) ?_
  rw [eT]
  exact ⟨rfl, N, rfl⟩
theorem ef_16 (p1 : Int32) (p2 : Int32) (m : MethodId) : entryFrame m #[(.int p1), (.int p2)] 2 = mkF m 0 #[.val (.int p1), .val (.int p2)] [] := by first | (simp [entryFrame, mkF, argsToLocals, Value.category]; done) | rfl
def Q16 (Z : State) (p1 : Int32) (p2 : Int32) (u_SIOOBE_FORMATTER : Value) (h0 : Heap) (n0 : Nat) (v : Option Value) (h : Heap) (L : List Loc) : Prop := v = none ∧ Fr n0 L ∧ h = h0
set_option maxRecDepth 65536 in
set_option maxHeartbeats 40000000 in
theorem rm16 (l : Launch) (Z : State) (a0 : Array Value) (hw : ∀ d ∈ tables_1, d.before a0 Z = true) (p1 : Int32) (p2 : Int32) (u_SIOOBE_FORMATTER : Value) (h0 : Heap) (n0 : Nat) (Zs : n0 ≤ h0.size) (hi : ¬ p1 < (0 : Int32)) (hj : p1 < p2) (hsf : u_SIOOBE_FORMATTER.isRef = true) (S_SIOOBE_FORMATTER : Sta Z h0 "jdk/internal/util/Preconditions" "SIOOBE_FORMATTER" "Ljava/util/function/BiFunction;" u_SIOOBE_FORMATTER) :
    Met1 l Z (⟨"java/lang/String", "checkIndex", "(II)V"⟩ : MethodName) jdk_42_method_155_code 2 none ({ frames := 1, cells := 0, slots := 0, locals := 14 } : Room) #[(.int p1), (.int p2)] h0 (Q16 Z p1 p2 u_SIOOBE_FORMATTER h0 n0) := by
  refine own_met_of (plainFor_of_name pn_12) (ef_16 p1 p2) ?_
  intro p e s m below meth c s₁ X hx hby hml hZ hown hnm hret hlk eT
  have hown : s.vm.findClass "java/lang/String" = some m.cls := hown
  have N := Fr.nil n0
  refine own_iloadN X hx hby p1 d16_0 rfl 1 rfl ?_
  refine own_iloadN X hx hby p2 d16_1 rfl 2 rfl ?_
  refine own_getS X hx hby hZ hown (host := "") (Or.inl (hw _ (List.mem_of_getElem? (i := 78) rfl))) Via.refl eT S_SIOOBE_FORMATTER d16_2 5 rfl ?_
  intro T2 X eT
  rcases ref_cases hsf with rfl | ⟨bS, rfl⟩
  · skip
    refine own_callS X hx hby hZ (st := []) [(.int p1), (.int p2), .null] rfl hown (hw _ (List.mem_of_getElem? (i := 80) rfl)) (hw _ (List.mem_of_getElem? (i := 81) rfl)) (hw _ (List.mem_of_getElem? (i := 79) rfl)) (hw _ (List.mem_of_getElem? (i := 82) rfl)) (by decide) d16_5 (rm17_z l Z a0 hw p1 p2 h0 n0 Zs hi hj) eT pd_11 rfl (by rw [hml]; rfl) (by decide) 0 rfl (by decide) (by decide) (by decide) 8 rfl ?_
    intro T5 L9 v9 X hQ
    obtain ⟨rfl, N9, eT⟩ := hQ
    have N := Fr.app N N9
    show Go p e below _ T5 (mkF m 8 #[.val (.int p1), .val (.int p2)] [(.int p1)])
    refine own_pop X hx hby d16_8 rfl 9 rfl ?_
    refine own_ret X hx hby hret hlk d16_9 (by decide) (by decide) ?_
    rw [eT]
    exact ⟨rfl, N, rfl⟩
  · skip
    refine own_callS X hx hby hZ (st := []) [(.int p1), (.int p2), (.ref bS)] rfl hown (hw _ (List.mem_of_getElem? (i := 80) rfl)) (hw _ (List.mem_of_getElem? (i := 81) rfl)) (hw _ (List.mem_of_getElem? (i := 79) rfl)) (hw _ (List.mem_of_getElem? (i := 82) rfl)) (by decide) d16_5 (rm17 l Z a0 hw p1 p2 bS h0 n0 Zs hi hj) eT pd_11 rfl (by rw [hml]; rfl) (by decide) 0 rfl (by decide) (by decide) (by decide) 8 rfl ?_
    intro T5 L9 v9 X hQ
    obtain ⟨rfl, N9, eT⟩ := hQ
    have N := Fr.app N N9
    show Go p e below _ T5 (mkF m 8 #[.val (.int p1), .val (.int p2)] [(.int p1)])
    refine own_pop X hx hby d16_8 rfl 9 rfl ?_
    refine own_ret X hx hby hret hlk d16_9 (by decide) (by decide) ?_
    rw [eT]
    exact ⟨rfl, N, rfl⟩
theorem ef_33 (a1 : Addr) (m : MethodId) : entryFrame m #[(.ref a1)] 1 = mkF m 0 #[.val (.ref a1)] [] := by first | (simp [entryFrame, mkF, argsToLocals, Value.category]; done) | rfl
def Q33 (Z : State) (a1 : Addr) (ar_a1 : Nat → Int32) (n1 : Nat) (h0 : Heap) (n0 : Nat) (v : Option Value) (h : Heap) (L : List Loc) : Prop := v = some (.int ((Nat.toInt32 n1) >>> ((1 : Int32) &&& 31))) ∧ Fr n0 L ∧ h = h0
set_option maxRecDepth 65536 in
set_option maxHeartbeats 40000000 in
theorem rm33 (l : Launch) (Z : State) (a0 : Array Value) (hw : ∀ d ∈ tables_1, d.before a0 Z = true) (a1 : Addr) (ar_a1 : Nat → Int32) (n1 : Nat) (h0 : Heap) (n0 : Nat) (Zs : n0 ≤ h0.size) (A_a1 : Afi Z h0 a1 .byte n1 ar_a1) :
    Met1 l Z (⟨"java/lang/StringUTF16", "length", "([B)I"⟩ : MethodName) jdk_52_method_6_code 1 (some .int) ({ frames := 0, cells := 0, slots := 0, locals := 0 } : Room) #[(.ref a1)] h0 (Q33 Z a1 ar_a1 n1 h0 n0) := by
  refine own_met_of (plainFor_of_name pn_33) (ef_33 a1) ?_
  intro p e s m below meth c s₁ X hx hby hml hZ hown hnm hret hlk eT
  have hown : s.vm.findClass "java/lang/StringUTF16" = some m.cls := hown
  have N := Fr.nil n0
  refine own_aloadN X hx hby (.ref a1) d33_0 rfl rfl 1 rfl ?_
  refine own_arraylength X hx hby hZ (Nat.toInt32 n1) eT A_a1 rfl d33_1 2 rfl ?_
  refine own_iconst X hx hby (1 : Int32) d33_2 rfl 3 rfl ?_
  refine own_ishr X hx hby d33_3 4 rfl ?_
  refine own_retI X hx hby hret hlk d33_4 (by decide) (by decide) ?_
  rw [eT]
  exact ⟨rfl, N, rfl⟩
theorem ef_15_0 (a1 : Addr) (m : MethodId) : entryFrame m #[(.ref a1), (.int (0 : Int32))] 2 = mkF m 0 #[.val (.ref a1), .val (.int (0 : Int32))] [] := by first | (simp [entryFrame, mkF, argsToLocals, Value.category]; done) | rfl
def Q15_0 (Z : State) (a1 : Addr) (ar_a1 : Nat → Int32) (n1 : Nat) (u_SIOOBE_FORMATTER : Value) (h0 : Heap) (n0 : Nat) (v : Option Value) (h : Heap) (L : List Loc) : Prop := v = some (.int (nar .char (((ar_a1 0) &&& (255 : Int32)).toUInt32.toUInt16.toUInt32.toInt32))) ∧ Fr n0 L ∧ h = h0
set_option maxRecDepth 65536 in
set_option maxHeartbeats 40000000 in
theorem rm15_0 (l : Launch) (Z : State) (a0 : Array Value) (hw : ∀ d ∈ tables_1, d.before a0 Z = true) (a1 : Addr) (ar_a1 : Nat → Int32) (n1 : Nat) (u_SIOOBE_FORMATTER : Value) (h0 : Heap) (n0 : Nat) (Zs : n0 ≤ h0.size) (hsf : u_SIOOBE_FORMATTER.isRef = true) (hb : ¬ ((0 : Int32) < 0 ∨ n1 ≤ Int32.toNatClampNeg (0 : Int32))) (hj : (0 : Int32) < (Nat.toInt32 n1)) (A_a1 : Afi Z h0 a1 .byte n1 ar_a1) (S_SIOOBE_FORMATTER : Sta Z h0 "jdk/internal/util/Preconditions" "SIOOBE_FORMATTER" "Ljava/util/function/BiFunction;" u_SIOOBE_FORMATTER) :
    Met1 l Z (⟨"java/lang/StringLatin1", "charAt", "([BI)C"⟩ : MethodName) jdk_43_method_2_code 2 (some .char) ({ frames := 2, cells := 0, slots := 0, locals := 27 } : Room) #[(.ref a1), (.int (0 : Int32))] h0 (Q15_0 Z a1 ar_a1 n1 u_SIOOBE_FORMATTER h0 n0) := by
  refine own_met_of (plainFor_of_name pn_22) (ef_15_0 a1) ?_
  intro p e s m below meth c s₁ X hx hby hml hZ hown hnm hret hlk eT
  have hown : s.vm.findClass "java/lang/StringLatin1" = some m.cls := hown
  have N := Fr.nil n0
  refine own_iloadN X hx hby (0 : Int32) d15_0 rfl 1 rfl ?_
  refine own_aloadN X hx hby (.ref a1) d15_1 rfl rfl 2 rfl ?_
  refine own_arraylength X hx hby hZ (Nat.toInt32 n1) eT A_a1 rfl d15_2 3 rfl ?_
  refine own_callS X hx hby hZ (st := []) [(.int (0 : Int32)), (.int (Nat.toInt32 n1))] rfl hown (hw _ (List.mem_of_getElem? (i := 75) rfl)) (hw _ (List.mem_of_getElem? (i := 76) rfl)) (hw _ (List.mem_of_getElem? (i := 8) rfl)) (hw _ (List.mem_of_getElem? (i := 77) rfl)) (by decide) d15_3 (rm16 l Z a0 hw (0 : Int32) (Nat.toInt32 n1) u_SIOOBE_FORMATTER h0 n0 Zs (by decide) hj hsf S_SIOOBE_FORMATTER) eT pd_10 rfl (by rw [hml]; rfl) (by decide) 0 rfl (by decide) (by decide) (by decide) 6 rfl ?_
  intro T3 L9 v9 X hQ
  obtain ⟨rfl, N9, eT⟩ := hQ
  have N := Fr.app N N9
  show Go p e below _ T3 (mkF m 6 #[.val (.ref a1), .val (.int (0 : Int32))] [])
  refine own_aloadN X hx hby (.ref a1) d15_6 rfl rfl 7 rfl ?_
  refine own_iloadN X hx hby (0 : Int32) d15_7 rfl 8 rfl ?_
  refine own_baload X hx hby hZ (ar_a1 0) eT A_a1 hb rfl d15_8 9 rfl ?_
  refine own_sipush X hx hby (255 : Int32) d15_9 rfl 12 rfl ?_
  refine own_iand X hx hby d15_12 13 rfl ?_
  refine own_i2c X hx hby d15_13 14 rfl ?_
  refine own_retN X hx hby hret hlk (t := .char) (z' := (nar .char (((ar_a1 0) &&& (255 : Int32)).toUInt32.toUInt16.toUInt32.toInt32))) (by simp) d15_14 (by decide) (by decide) rfl ?_
  rw [eT]
  exact ⟨rfl, N, rfl⟩
theorem ef_30_0 (a1 : Addr) (m : MethodId) : entryFrame m #[(.ref a1), (.int (0 : Int32))] 2 = mkF m 0 #[.val (.ref a1), .val (.int (0 : Int32))] [] := by first | (simp [entryFrame, mkF, argsToLocals, Value.category]; done) | rfl
def Q30_0 (Z : State) (a1 : Addr) (ar_a1 : Nat → Int32) (n1 : Nat) (h0 : Heap) (n0 : Nat) (v : Option Value) (h : Heap) (L : List Loc) : Prop := v = some (.int (nar .char (((((ar_a1 0) &&& (255 : Int32)) <<< ((0 : Int32) &&& 31)) ||| (((ar_a1 1) &&& (255 : Int32)) <<< ((8 : Int32) &&& 31))).toUInt32.toUInt16.toUInt32.toInt32))) ∧ Fr n0 L ∧ h = h0
set_option maxRecDepth 65536 in
set_option maxHeartbeats 40000000 in
theorem rm30_0 (l : Launch) (Z : State) (a0 : Array Value) (hw : ∀ d ∈ tables_1, d.before a0 Z = true) (a1 : Addr) (ar_a1 : Nat → Int32) (n1 : Nat) (h0 : Heap) (n0 : Nat) (Zs : n0 ≤ h0.size) (hb0 : ¬ ((0 : Int32) < 0 ∨ n1 ≤ Int32.toNatClampNeg (0 : Int32))) (hb1 : ¬ ((1 : Int32) < 0 ∨ n1 ≤ Int32.toNatClampNeg (1 : Int32))) (A_a1 : Afi Z h0 a1 .byte n1 ar_a1) (S__assertionsDisabled : Sta Z h0 "java/lang/StringUTF16" "$assertionsDisabled" "Z" (.int (1 : Int32))) (S_HI_BYTE_SHIFT : Sta Z h0 "java/lang/StringUTF16" "HI_BYTE_SHIFT" "I" (.int (0 : Int32))) (S_LO_BYTE_SHIFT : Sta Z h0 "java/lang/StringUTF16" "LO_BYTE_SHIFT" "I" (.int (8 : Int32))) :
    Met1 l Z (⟨"java/lang/StringUTF16", "getChar", "([BI)C"⟩ : MethodName) jdk_52_method_5_code 2 (some .char) ({ frames := 0, cells := 0, slots := 0, locals := 0 } : Room) #[(.ref a1), (.int (0 : Int32))] h0 (Q30_0 Z a1 ar_a1 n1 h0 n0) := by
  refine own_met_of (plainFor_of_name pn_33) (ef_30_0 a1) ?_
  intro p e s m below meth c s₁ X hx hby hml hZ hown hnm hret hlk eT
  have hown : s.vm.findClass "java/lang/StringUTF16" = some m.cls := hown
  have N := Fr.nil n0
  refine own_getS X hx hby hZ hown (host := "") (Or.inl (hw _ (List.mem_of_getElem? (i := 128) rfl))) Via.refl eT S__assertionsDisabled d30_0 3 rfl ?_
  intro T0 X eT
  have c3 : ¬ (1 : Int32) = (0 : Int32) := by decide
  refine own_if_ne X hx hby d30_3 28 6 (by decide) rfl (fun _ => ?_) (fun q => absurd q c3)
  refine own_iloadN X hx hby (0 : Int32) d30_28 rfl 29 rfl ?_
  refine own_iconst X hx hby (1 : Int32) d30_29 rfl 30 rfl ?_
  refine own_ishl X hx hby d30_30 31 rfl ?_
  refine own_top (v' := (.int (0 : Int32))) (congrArg Value.int (by decide)) ?_
  refine own_istoreN X hx hby d30_31 rfl (l' := #[.val (.ref a1), .val (.int (0 : Int32))]) rfl 32 rfl ?_
  refine own_aloadN X hx hby (.ref a1) d30_32 rfl rfl 33 rfl ?_
  refine own_iloadN X hx hby (0 : Int32) d30_33 rfl 34 rfl ?_
  refine own_iinc X hx hby d30_34 (x := (0 : Int32)) rfl (by decide) (l' := #[.val (.ref a1), .val (.int (1 : Int32))]) rfl 37 rfl ?_
  refine own_baload X hx hby hZ (ar_a1 0) eT A_a1 hb0 rfl d30_37 38 rfl ?_
  refine own_sipush X hx hby (255 : Int32) d30_38 rfl 41 rfl ?_
  refine own_iand X hx hby d30_41 42 rfl ?_
  refine own_getS X hx hby hZ hown (host := "") (Or.inl (hw _ (List.mem_of_getElem? (i := 129) rfl))) Via.refl eT S_HI_BYTE_SHIFT d30_42 45 rfl ?_
  intro T42 X eT
  refine own_ishl X hx hby d30_45 46 rfl ?_
  refine own_aloadN X hx hby (.ref a1) d30_46 rfl rfl 47 rfl ?_
  refine own_iloadN X hx hby (1 : Int32) d30_47 rfl 48 rfl ?_
  refine own_baload X hx hby hZ (ar_a1 1) eT A_a1 hb1 rfl d30_48 49 rfl ?_
  refine own_sipush X hx hby (255 : Int32) d30_49 rfl 52 rfl ?_
  refine own_iand X hx hby d30_52 53 rfl ?_
  refine own_getS X hx hby hZ hown (host := "") (Or.inl (hw _ (List.mem_of_getElem? (i := 130) rfl))) Via.refl eT S_LO_BYTE_SHIFT d30_53 56 rfl ?_
  intro T53 X eT
  refine own_ishl X hx hby d30_56 57 rfl ?_
  refine own_ior X hx hby d30_57 58 rfl ?_
  refine own_i2c X hx hby d30_58 59 rfl ?_
  refine own_retN X hx hby hret hlk (t := .char) (z' := (nar .char (((((ar_a1 0) &&& (255 : Int32)) <<< ((0 : Int32) &&& 31)) ||| (((ar_a1 1) &&& (255 : Int32)) <<< ((8 : Int32) &&& 31))).toUInt32.toUInt16.toUInt32.toInt32))) (by simp) d30_59 (by decide) (by decide) rfl ?_
  rw [eT]
  exact ⟨rfl, N, rfl⟩
theorem ef_32_0 (a2 : Addr) (m : MethodId) : entryFrame m #[(.int (0 : Int32)), (.ref a2)] 2 = mkF m 0 #[.val (.int (0 : Int32)), .val (.ref a2)] [] := by first | (simp [entryFrame, mkF, argsToLocals, Value.category]; done) | rfl
def Q32_0 (Z : State) (a2 : Addr) (ar_a2 : Nat → Int32) (n1 : Nat) (u_SIOOBE_FORMATTER : Value) (h0 : Heap) (n0 : Nat) (v : Option Value) (h : Heap) (L : List Loc) : Prop := v = none ∧ Fr n0 L ∧ h = h0
set_option maxRecDepth 65536 in
set_option maxHeartbeats 40000000 in
theorem rm32_0 (l : Launch) (Z : State) (a0 : Array Value) (hw : ∀ d ∈ tables_1, d.before a0 Z = true) (a2 : Addr) (ar_a2 : Nat → Int32) (n1 : Nat) (u_SIOOBE_FORMATTER : Value) (h0 : Heap) (n0 : Nat) (Zs : n0 ≤ h0.size) (hsf : u_SIOOBE_FORMATTER.isRef = true) (hj : (0 : Int32) < ((Nat.toInt32 n1) >>> ((1 : Int32) &&& 31))) (A_a2 : Afi Z h0 a2 .byte n1 ar_a2) (S_SIOOBE_FORMATTER : Sta Z h0 "jdk/internal/util/Preconditions" "SIOOBE_FORMATTER" "Ljava/util/function/BiFunction;" u_SIOOBE_FORMATTER) :
    Met1 l Z (⟨"java/lang/StringUTF16", "checkIndex", "(I[B)V"⟩ : MethodName) jdk_52_method_91_code 2 none ({ frames := 2, cells := 0, slots := 0, locals := 27 } : Room) #[(.int (0 : Int32)), (.ref a2)] h0 (Q32_0 Z a2 ar_a2 n1 u_SIOOBE_FORMATTER h0 n0) := by
  refine own_met_of (plainFor_of_name pn_33) (ef_32_0 a2) ?_
  intro p e s m below meth c s₁ X hx hby hml hZ hown hnm hret hlk eT
  have hown : s.vm.findClass "java/lang/StringUTF16" = some m.cls := hown
  have N := Fr.nil n0
  refine own_iloadN X hx hby (0 : Int32) d32_0 rfl 1 rfl ?_
  refine own_aloadN X hx hby (.ref a2) d32_1 rfl rfl 2 rfl ?_
  refine own_callS X hx hby hZ (st := [(.int (0 : Int32))]) [(.ref a2)] rfl hown (hw _ (List.mem_of_getElem? (i := 140) rfl)) (hw _ (List.mem_of_getElem? (i := 141) rfl)) (hw _ (List.mem_of_getElem? (i := 40) rfl)) (hw _ (List.mem_of_getElem? (i := 142) rfl)) (by decide) d32_2 (rm33 l Z a0 hw a2 ar_a2 n1 h0 n0 Zs A_a2) eT pd_14 rfl (by rw [hml]; rfl) (by decide) 1 rfl (by decide) (by decide) (by decide) 5 rfl ?_
  intro T2 L9 v9 X hQ
  obtain ⟨rfl, N9, eT⟩ := hQ
  have N := Fr.app N N9
  show Go p e below _ T2 (mkF m 5 #[.val (.int (0 : Int32)), .val (.ref a2)] [(.int ((Nat.toInt32 n1) >>> ((1 : Int32) &&& 31))), (.int (0 : Int32))])
  refine own_callS X hx hby hZ (st := []) [(.int (0 : Int32)), (.int ((Nat.toInt32 n1) >>> ((1 : Int32) &&& 31)))] rfl hown (hw _ (List.mem_of_getElem? (i := 143) rfl)) (hw _ (List.mem_of_getElem? (i := 76) rfl)) (hw _ (List.mem_of_getElem? (i := 8) rfl)) (hw _ (List.mem_of_getElem? (i := 77) rfl)) (by decide) d32_5 (rm16 l Z a0 hw (0 : Int32) ((Nat.toInt32 n1) >>> ((1 : Int32) &&& 31)) u_SIOOBE_FORMATTER h0 n0 Zs (by decide) hj hsf S_SIOOBE_FORMATTER) eT pd_10 rfl (by rw [hml]; rfl) (by decide) 0 rfl (by decide) (by decide) (by decide) 8 rfl ?_
  intro T5 L9 v9 X hQ
  obtain ⟨rfl, N9, eT⟩ := hQ
  have N := Fr.app N N9
  show Go p e below _ T5 (mkF m 8 #[.val (.int (0 : Int32)), .val (.ref a2)] [])
  refine own_ret X hx hby hret hlk d32_8 (by decide) (by decide) ?_
  rw [eT]
  exact ⟨rfl, N, rfl⟩
theorem ef_31_0 (a1 : Addr) (m : MethodId) : entryFrame m #[(.ref a1), (.int (0 : Int32))] 2 = mkF m 0 #[.val (.ref a1), .val (.int (0 : Int32))] [] := by first | (simp [entryFrame, mkF, argsToLocals, Value.category]; done) | rfl
def Q31_0 (Z : State) (a1 : Addr) (ar_a1 : Nat → Int32) (n1 : Nat) (u_SIOOBE_FORMATTER : Value) (h0 : Heap) (n0 : Nat) (v : Option Value) (h : Heap) (L : List Loc) : Prop := v = some (.int (nar .char (nar .char (((((ar_a1 0) &&& (255 : Int32)) <<< ((0 : Int32) &&& 31)) ||| (((ar_a1 1) &&& (255 : Int32)) <<< ((8 : Int32) &&& 31))).toUInt32.toUInt16.toUInt32.toInt32)))) ∧ Fr n0 L ∧ h = h0
set_option maxRecDepth 65536 in
set_option maxHeartbeats 40000000 in
theorem rm31_0 (l : Launch) (Z : State) (a0 : Array Value) (hw : ∀ d ∈ tables_1, d.before a0 Z = true) (a1 : Addr) (ar_a1 : Nat → Int32) (n1 : Nat) (u_SIOOBE_FORMATTER : Value) (h0 : Heap) (n0 : Nat) (Zs : n0 ≤ h0.size) (hsf : u_SIOOBE_FORMATTER.isRef = true) (hj : (0 : Int32) < ((Nat.toInt32 n1) >>> ((1 : Int32) &&& 31))) (hb0 : ¬ ((0 : Int32) < 0 ∨ n1 ≤ Int32.toNatClampNeg (0 : Int32))) (hb1 : ¬ ((1 : Int32) < 0 ∨ n1 ≤ Int32.toNatClampNeg (1 : Int32))) (A_a1 : Afi Z h0 a1 .byte n1 ar_a1) (S_SIOOBE_FORMATTER : Sta Z h0 "jdk/internal/util/Preconditions" "SIOOBE_FORMATTER" "Ljava/util/function/BiFunction;" u_SIOOBE_FORMATTER) (S__assertionsDisabled : Sta Z h0 "java/lang/StringUTF16" "$assertionsDisabled" "Z" (.int (1 : Int32))) (S_HI_BYTE_SHIFT : Sta Z h0 "java/lang/StringUTF16" "HI_BYTE_SHIFT" "I" (.int (0 : Int32))) (S_LO_BYTE_SHIFT : Sta Z h0 "java/lang/StringUTF16" "LO_BYTE_SHIFT" "I" (.int (8 : Int32))) :
    Met1 l Z (⟨"java/lang/StringUTF16", "charAt", "([BI)C"⟩ : MethodName) jdk_52_method_83_code 2 (some .char) ({ frames := 3, cells := 0, slots := 0, locals := 40 } : Room) #[(.ref a1), (.int (0 : Int32))] h0 (Q31_0 Z a1 ar_a1 n1 u_SIOOBE_FORMATTER h0 n0) := by
  refine own_met_of (plainFor_of_name pn_33) (ef_31_0 a1) ?_
  intro p e s m below meth c s₁ X hx hby hml hZ hown hnm hret hlk eT
  have hown : s.vm.findClass "java/lang/StringUTF16" = some m.cls := hown
  have N := Fr.nil n0
  refine own_iloadN X hx hby (0 : Int32) d31_0 rfl 1 rfl ?_
  refine own_aloadN X hx hby (.ref a1) d31_1 rfl rfl 2 rfl ?_
  refine own_callS X hx hby hZ (st := []) [(.int (0 : Int32)), (.ref a1)] rfl hown (hw _ (List.mem_of_getElem? (i := 137) rfl)) (hw _ (List.mem_of_getElem? (i := 138) rfl)) (hw _ (List.mem_of_getElem? (i := 40) rfl)) (hw _ (List.mem_of_getElem? (i := 139) rfl)) (by decide) d31_2 (rm32_0 l Z a0 hw a1 ar_a1 n1 u_SIOOBE_FORMATTER h0 n0 Zs hsf hj A_a1 S_SIOOBE_FORMATTER) eT pd_12 rfl (by rw [hml]; rfl) (by decide) 0 rfl (by decide) (by decide) (by decide) 5 rfl ?_
  intro T2 L9 v9 X hQ
  obtain ⟨rfl, N9, eT⟩ := hQ
  have N := Fr.app N N9
  show Go p e below _ T2 (mkF m 5 #[.val (.ref a1), .val (.int (0 : Int32))] [])
  refine own_aloadN X hx hby (.ref a1) d31_5 rfl rfl 6 rfl ?_
  refine own_iloadN X hx hby (0 : Int32) d31_6 rfl 7 rfl ?_
  refine own_callS X hx hby hZ (st := []) [(.ref a1), (.int (0 : Int32))] rfl hown (hw _ (List.mem_of_getElem? (i := 131) rfl)) (hw _ (List.mem_of_getElem? (i := 132) rfl)) (hw _ (List.mem_of_getElem? (i := 40) rfl)) (hw _ (List.mem_of_getElem? (i := 133) rfl)) (by decide) d31_7 (rm30_0 l Z a0 hw a1 ar_a1 n1 h0 n0 Zs hb0 hb1 A_a1 S__assertionsDisabled S_HI_BYTE_SHIFT S_LO_BYTE_SHIFT) eT pd_16 rfl (by rw [hml]; rfl) (by decide) 0 rfl (by decide) (by decide) (by decide) 10 rfl ?_
  intro T7 L9 v9 X hQ
  obtain ⟨rfl, N9, eT⟩ := hQ
  have N := Fr.app N N9
  show Go p e below _ T7 (mkF m 10 #[.val (.ref a1), .val (.int (0 : Int32))] [(.int (nar .char (((((ar_a1 0) &&& (255 : Int32)) <<< ((0 : Int32) &&& 31)) ||| (((ar_a1 1) &&& (255 : Int32)) <<< ((8 : Int32) &&& 31))).toUInt32.toUInt16.toUInt32.toInt32)))])
  refine own_retN X hx hby hret hlk (t := .char) (z' := (nar .char (nar .char (((((ar_a1 0) &&& (255 : Int32)) <<< ((0 : Int32) &&& 31)) ||| (((ar_a1 1) &&& (255 : Int32)) <<< ((8 : Int32) &&& 31))).toUInt32.toUInt16.toUInt32.toInt32)))) (by simp) d31_10 (by decide) (by decide) rfl ?_
  rw [eT]
  exact ⟨rfl, N, rfl⟩
theorem ef_15_1 (a1 : Addr) (m : MethodId) : entryFrame m #[(.ref a1), (.int (1 : Int32))] 2 = mkF m 0 #[.val (.ref a1), .val (.int (1 : Int32))] [] := by first | (simp [entryFrame, mkF, argsToLocals, Value.category]; done) | rfl
def Q15_1 (Z : State) (a1 : Addr) (ar_a1 : Nat → Int32) (n1 : Nat) (u_SIOOBE_FORMATTER : Value) (h0 : Heap) (n0 : Nat) (v : Option Value) (h : Heap) (L : List Loc) : Prop := v = some (.int (nar .char (((ar_a1 1) &&& (255 : Int32)).toUInt32.toUInt16.toUInt32.toInt32))) ∧ Fr n0 L ∧ h = h0
set_option maxRecDepth 65536 in
set_option maxHeartbeats 40000000 in
theorem rm15_1 (l : Launch) (Z : State) (a0 : Array Value) (hw : ∀ d ∈ tables_1, d.before a0 Z = true) (a1 : Addr) (ar_a1 : Nat → Int32) (n1 : Nat) (u_SIOOBE_FORMATTER : Value) (h0 : Heap) (n0 : Nat) (Zs : n0 ≤ h0.size) (hsf : u_SIOOBE_FORMATTER.isRef = true) (hb : ¬ ((1 : Int32) < 0 ∨ n1 ≤ Int32.toNatClampNeg (1 : Int32))) (hj : (1 : Int32) < (Nat.toInt32 n1)) (A_a1 : Afi Z h0 a1 .byte n1 ar_a1) (S_SIOOBE_FORMATTER : Sta Z h0 "jdk/internal/util/Preconditions" "SIOOBE_FORMATTER" "Ljava/util/function/BiFunction;" u_SIOOBE_FORMATTER) :
    Met1 l Z (⟨"java/lang/StringLatin1", "charAt", "([BI)C"⟩ : MethodName) jdk_43_method_2_code 2 (some .char) ({ frames := 2, cells := 0, slots := 0, locals := 27 } : Room) #[(.ref a1), (.int (1 : Int32))] h0 (Q15_1 Z a1 ar_a1 n1 u_SIOOBE_FORMATTER h0 n0) := by
  refine own_met_of (plainFor_of_name pn_22) (ef_15_1 a1) ?_
  intro p e s m below meth c s₁ X hx hby hml hZ hown hnm hret hlk eT
  have hown : s.vm.findClass "java/lang/StringLatin1" = some m.cls := hown
  have N := Fr.nil n0
  refine own_iloadN X hx hby (1 : Int32) d15_0 rfl 1 rfl ?_
  refine own_aloadN X hx hby (.ref a1) d15_1 rfl rfl 2 rfl ?_
  refine own_arraylength X hx hby hZ (Nat.toInt32 n1) eT A_a1 rfl d15_2 3 rfl ?_
  refine own_callS X hx hby hZ (st := []) [(.int (1 : Int32)), (.int (Nat.toInt32 n1))] rfl hown (hw _ (List.mem_of_getElem? (i := 75) rfl)) (hw _ (List.mem_of_getElem? (i := 76) rfl)) (hw _ (List.mem_of_getElem? (i := 8) rfl)) (hw _ (List.mem_of_getElem? (i := 77) rfl)) (by decide) d15_3 (rm16 l Z a0 hw (1 : Int32) (Nat.toInt32 n1) u_SIOOBE_FORMATTER h0 n0 Zs (by decide) hj hsf S_SIOOBE_FORMATTER) eT pd_10 rfl (by rw [hml]; rfl) (by decide) 0 rfl (by decide) (by decide) (by decide) 6 rfl ?_
  intro T3 L9 v9 X hQ
  obtain ⟨rfl, N9, eT⟩ := hQ
  have N := Fr.app N N9
  show Go p e below _ T3 (mkF m 6 #[.val (.ref a1), .val (.int (1 : Int32))] [])
  refine own_aloadN X hx hby (.ref a1) d15_6 rfl rfl 7 rfl ?_
  refine own_iloadN X hx hby (1 : Int32) d15_7 rfl 8 rfl ?_
  refine own_baload X hx hby hZ (ar_a1 1) eT A_a1 hb rfl d15_8 9 rfl ?_
  refine own_sipush X hx hby (255 : Int32) d15_9 rfl 12 rfl ?_
  refine own_iand X hx hby d15_12 13 rfl ?_
  refine own_i2c X hx hby d15_13 14 rfl ?_
  refine own_retN X hx hby hret hlk (t := .char) (z' := (nar .char (((ar_a1 1) &&& (255 : Int32)).toUInt32.toUInt16.toUInt32.toInt32))) (by simp) d15_14 (by decide) (by decide) rfl ?_
  rw [eT]
  exact ⟨rfl, N, rfl⟩
theorem ef_30_1 (a1 : Addr) (m : MethodId) : entryFrame m #[(.ref a1), (.int (1 : Int32))] 2 = mkF m 0 #[.val (.ref a1), .val (.int (1 : Int32))] [] := by first | (simp [entryFrame, mkF, argsToLocals, Value.category]; done) | rfl
def Q30_1 (Z : State) (a1 : Addr) (ar_a1 : Nat → Int32) (n1 : Nat) (h0 : Heap) (n0 : Nat) (v : Option Value) (h : Heap) (L : List Loc) : Prop := v = some (.int (nar .char (((((ar_a1 2) &&& (255 : Int32)) <<< ((0 : Int32) &&& 31)) ||| (((ar_a1 3) &&& (255 : Int32)) <<< ((8 : Int32) &&& 31))).toUInt32.toUInt16.toUInt32.toInt32))) ∧ Fr n0 L ∧ h = h0
set_option maxRecDepth 65536 in
set_option maxHeartbeats 40000000 in
theorem rm30_1 (l : Launch) (Z : State) (a0 : Array Value) (hw : ∀ d ∈ tables_1, d.before a0 Z = true) (a1 : Addr) (ar_a1 : Nat → Int32) (n1 : Nat) (h0 : Heap) (n0 : Nat) (Zs : n0 ≤ h0.size) (hb0 : ¬ ((2 : Int32) < 0 ∨ n1 ≤ Int32.toNatClampNeg (2 : Int32))) (hb1 : ¬ ((3 : Int32) < 0 ∨ n1 ≤ Int32.toNatClampNeg (3 : Int32))) (A_a1 : Afi Z h0 a1 .byte n1 ar_a1) (S__assertionsDisabled : Sta Z h0 "java/lang/StringUTF16" "$assertionsDisabled" "Z" (.int (1 : Int32))) (S_HI_BYTE_SHIFT : Sta Z h0 "java/lang/StringUTF16" "HI_BYTE_SHIFT" "I" (.int (0 : Int32))) (S_LO_BYTE_SHIFT : Sta Z h0 "java/lang/StringUTF16" "LO_BYTE_SHIFT" "I" (.int (8 : Int32))) :
    Met1 l Z (⟨"java/lang/StringUTF16", "getChar", "([BI)C"⟩ : MethodName) jdk_52_method_5_code 2 (some .char) ({ frames := 0, cells := 0, slots := 0, locals := 0 } : Room) #[(.ref a1), (.int (1 : Int32))] h0 (Q30_1 Z a1 ar_a1 n1 h0 n0) := by
  refine own_met_of (plainFor_of_name pn_33) (ef_30_1 a1) ?_
  intro p e s m below meth c s₁ X hx hby hml hZ hown hnm hret hlk eT
  have hown : s.vm.findClass "java/lang/StringUTF16" = some m.cls := hown
  have N := Fr.nil n0
  refine own_getS X hx hby hZ hown (host := "") (Or.inl (hw _ (List.mem_of_getElem? (i := 128) rfl))) Via.refl eT S__assertionsDisabled d30_0 3 rfl ?_
  intro T0 X eT
  have c3 : ¬ (1 : Int32) = (0 : Int32) := by decide
  refine own_if_ne X hx hby d30_3 28 6 (by decide) rfl (fun _ => ?_) (fun q => absurd q c3)
  refine own_iloadN X hx hby (1 : Int32) d30_28 rfl 29 rfl ?_
  refine own_iconst X hx hby (1 : Int32) d30_29 rfl 30 rfl ?_
  refine own_ishl X hx hby d30_30 31 rfl ?_
  refine own_top (v' := (.int (2 : Int32))) (congrArg Value.int (by decide)) ?_
  refine own_istoreN X hx hby d30_31 rfl (l' := #[.val (.ref a1), .val (.int (2 : Int32))]) rfl 32 rfl ?_
  refine own_aloadN X hx hby (.ref a1) d30_32 rfl rfl 33 rfl ?_
  refine own_iloadN X hx hby (2 : Int32) d30_33 rfl 34 rfl ?_
  refine own_iinc X hx hby d30_34 (x := (2 : Int32)) rfl (by decide) (l' := #[.val (.ref a1), .val (.int (3 : Int32))]) rfl 37 rfl ?_
  refine own_baload X hx hby hZ (ar_a1 2) eT A_a1 hb0 rfl d30_37 38 rfl ?_
  refine own_sipush X hx hby (255 : Int32) d30_38 rfl 41 rfl ?_
  refine own_iand X hx hby d30_41 42 rfl ?_
  refine own_getS X hx hby hZ hown (host := "") (Or.inl (hw _ (List.mem_of_getElem? (i := 129) rfl))) Via.refl eT S_HI_BYTE_SHIFT d30_42 45 rfl ?_
  intro T42 X eT
  refine own_ishl X hx hby d30_45 46 rfl ?_
  refine own_aloadN X hx hby (.ref a1) d30_46 rfl rfl 47 rfl ?_
  refine own_iloadN X hx hby (3 : Int32) d30_47 rfl 48 rfl ?_
  refine own_baload X hx hby hZ (ar_a1 3) eT A_a1 hb1 rfl d30_48 49 rfl ?_
  refine own_sipush X hx hby (255 : Int32) d30_49 rfl 52 rfl ?_
  refine own_iand X hx hby d30_52 53 rfl ?_
  refine own_getS X hx hby hZ hown (host := "") (Or.inl (hw _ (List.mem_of_getElem? (i := 130) rfl))) Via.refl eT S_LO_BYTE_SHIFT d30_53 56 rfl ?_
  intro T53 X eT
  refine own_ishl X hx hby d30_56 57 rfl ?_
  refine own_ior X hx hby d30_57 58 rfl ?_
  refine own_i2c X hx hby d30_58 59 rfl ?_
  refine own_retN X hx hby hret hlk (t := .char) (z' := (nar .char (((((ar_a1 2) &&& (255 : Int32)) <<< ((0 : Int32) &&& 31)) ||| (((ar_a1 3) &&& (255 : Int32)) <<< ((8 : Int32) &&& 31))).toUInt32.toUInt16.toUInt32.toInt32))) (by simp) d30_59 (by decide) (by decide) rfl ?_
  rw [eT]
  exact ⟨rfl, N, rfl⟩
theorem ef_32_1 (a2 : Addr) (m : MethodId) : entryFrame m #[(.int (1 : Int32)), (.ref a2)] 2 = mkF m 0 #[.val (.int (1 : Int32)), .val (.ref a2)] [] := by first | (simp [entryFrame, mkF, argsToLocals, Value.category]; done) | rfl
def Q32_1 (Z : State) (a2 : Addr) (ar_a2 : Nat → Int32) (n1 : Nat) (u_SIOOBE_FORMATTER : Value) (h0 : Heap) (n0 : Nat) (v : Option Value) (h : Heap) (L : List Loc) : Prop := v = none ∧ Fr n0 L ∧ h = h0
set_option maxRecDepth 65536 in
set_option maxHeartbeats 40000000 in
theorem rm32_1 (l : Launch) (Z : State) (a0 : Array Value) (hw : ∀ d ∈ tables_1, d.before a0 Z = true) (a2 : Addr) (ar_a2 : Nat → Int32) (n1 : Nat) (u_SIOOBE_FORMATTER : Value) (h0 : Heap) (n0 : Nat) (Zs : n0 ≤ h0.size) (hsf : u_SIOOBE_FORMATTER.isRef = true) (hj : (1 : Int32) < ((Nat.toInt32 n1) >>> ((1 : Int32) &&& 31))) (A_a2 : Afi Z h0 a2 .byte n1 ar_a2) (S_SIOOBE_FORMATTER : Sta Z h0 "jdk/internal/util/Preconditions" "SIOOBE_FORMATTER" "Ljava/util/function/BiFunction;" u_SIOOBE_FORMATTER) :
    Met1 l Z (⟨"java/lang/StringUTF16", "checkIndex", "(I[B)V"⟩ : MethodName) jdk_52_method_91_code 2 none ({ frames := 2, cells := 0, slots := 0, locals := 27 } : Room) #[(.int (1 : Int32)), (.ref a2)] h0 (Q32_1 Z a2 ar_a2 n1 u_SIOOBE_FORMATTER h0 n0) := by
  refine own_met_of (plainFor_of_name pn_33) (ef_32_1 a2) ?_
  intro p e s m below meth c s₁ X hx hby hml hZ hown hnm hret hlk eT
  have hown : s.vm.findClass "java/lang/StringUTF16" = some m.cls := hown
  have N := Fr.nil n0
  refine own_iloadN X hx hby (1 : Int32) d32_0 rfl 1 rfl ?_
  refine own_aloadN X hx hby (.ref a2) d32_1 rfl rfl 2 rfl ?_
  refine own_callS X hx hby hZ (st := [(.int (1 : Int32))]) [(.ref a2)] rfl hown (hw _ (List.mem_of_getElem? (i := 140) rfl)) (hw _ (List.mem_of_getElem? (i := 141) rfl)) (hw _ (List.mem_of_getElem? (i := 40) rfl)) (hw _ (List.mem_of_getElem? (i := 142) rfl)) (by decide) d32_2 (rm33 l Z a0 hw a2 ar_a2 n1 h0 n0 Zs A_a2) eT pd_14 rfl (by rw [hml]; rfl) (by decide) 1 rfl (by decide) (by decide) (by decide) 5 rfl ?_
  intro T2 L9 v9 X hQ
  obtain ⟨rfl, N9, eT⟩ := hQ
  have N := Fr.app N N9
  show Go p e below _ T2 (mkF m 5 #[.val (.int (1 : Int32)), .val (.ref a2)] [(.int ((Nat.toInt32 n1) >>> ((1 : Int32) &&& 31))), (.int (1 : Int32))])
  refine own_callS X hx hby hZ (st := []) [(.int (1 : Int32)), (.int ((Nat.toInt32 n1) >>> ((1 : Int32) &&& 31)))] rfl hown (hw _ (List.mem_of_getElem? (i := 143) rfl)) (hw _ (List.mem_of_getElem? (i := 76) rfl)) (hw _ (List.mem_of_getElem? (i := 8) rfl)) (hw _ (List.mem_of_getElem? (i := 77) rfl)) (by decide) d32_5 (rm16 l Z a0 hw (1 : Int32) ((Nat.toInt32 n1) >>> ((1 : Int32) &&& 31)) u_SIOOBE_FORMATTER h0 n0 Zs (by decide) hj hsf S_SIOOBE_FORMATTER) eT pd_10 rfl (by rw [hml]; rfl) (by decide) 0 rfl (by decide) (by decide) (by decide) 8 rfl ?_
  intro T5 L9 v9 X hQ
  obtain ⟨rfl, N9, eT⟩ := hQ
  have N := Fr.app N N9
  show Go p e below _ T5 (mkF m 8 #[.val (.int (1 : Int32)), .val (.ref a2)] [])
  refine own_ret X hx hby hret hlk d32_8 (by decide) (by decide) ?_
  rw [eT]
  exact ⟨rfl, N, rfl⟩
theorem ef_31_1 (a1 : Addr) (m : MethodId) : entryFrame m #[(.ref a1), (.int (1 : Int32))] 2 = mkF m 0 #[.val (.ref a1), .val (.int (1 : Int32))] [] := by first | (simp [entryFrame, mkF, argsToLocals, Value.category]; done) | rfl
def Q31_1 (Z : State) (a1 : Addr) (ar_a1 : Nat → Int32) (n1 : Nat) (u_SIOOBE_FORMATTER : Value) (h0 : Heap) (n0 : Nat) (v : Option Value) (h : Heap) (L : List Loc) : Prop := v = some (.int (nar .char (nar .char (((((ar_a1 2) &&& (255 : Int32)) <<< ((0 : Int32) &&& 31)) ||| (((ar_a1 3) &&& (255 : Int32)) <<< ((8 : Int32) &&& 31))).toUInt32.toUInt16.toUInt32.toInt32)))) ∧ Fr n0 L ∧ h = h0
set_option maxRecDepth 65536 in
set_option maxHeartbeats 40000000 in
theorem rm31_1 (l : Launch) (Z : State) (a0 : Array Value) (hw : ∀ d ∈ tables_1, d.before a0 Z = true) (a1 : Addr) (ar_a1 : Nat → Int32) (n1 : Nat) (u_SIOOBE_FORMATTER : Value) (h0 : Heap) (n0 : Nat) (Zs : n0 ≤ h0.size) (hsf : u_SIOOBE_FORMATTER.isRef = true) (hj : (1 : Int32) < ((Nat.toInt32 n1) >>> ((1 : Int32) &&& 31))) (hb0 : ¬ ((2 : Int32) < 0 ∨ n1 ≤ Int32.toNatClampNeg (2 : Int32))) (hb1 : ¬ ((3 : Int32) < 0 ∨ n1 ≤ Int32.toNatClampNeg (3 : Int32))) (A_a1 : Afi Z h0 a1 .byte n1 ar_a1) (S_SIOOBE_FORMATTER : Sta Z h0 "jdk/internal/util/Preconditions" "SIOOBE_FORMATTER" "Ljava/util/function/BiFunction;" u_SIOOBE_FORMATTER) (S__assertionsDisabled : Sta Z h0 "java/lang/StringUTF16" "$assertionsDisabled" "Z" (.int (1 : Int32))) (S_HI_BYTE_SHIFT : Sta Z h0 "java/lang/StringUTF16" "HI_BYTE_SHIFT" "I" (.int (0 : Int32))) (S_LO_BYTE_SHIFT : Sta Z h0 "java/lang/StringUTF16" "LO_BYTE_SHIFT" "I" (.int (8 : Int32))) :
    Met1 l Z (⟨"java/lang/StringUTF16", "charAt", "([BI)C"⟩ : MethodName) jdk_52_method_83_code 2 (some .char) ({ frames := 3, cells := 0, slots := 0, locals := 40 } : Room) #[(.ref a1), (.int (1 : Int32))] h0 (Q31_1 Z a1 ar_a1 n1 u_SIOOBE_FORMATTER h0 n0) := by
  refine own_met_of (plainFor_of_name pn_33) (ef_31_1 a1) ?_
  intro p e s m below meth c s₁ X hx hby hml hZ hown hnm hret hlk eT
  have hown : s.vm.findClass "java/lang/StringUTF16" = some m.cls := hown
  have N := Fr.nil n0
  refine own_iloadN X hx hby (1 : Int32) d31_0 rfl 1 rfl ?_
  refine own_aloadN X hx hby (.ref a1) d31_1 rfl rfl 2 rfl ?_
  refine own_callS X hx hby hZ (st := []) [(.int (1 : Int32)), (.ref a1)] rfl hown (hw _ (List.mem_of_getElem? (i := 137) rfl)) (hw _ (List.mem_of_getElem? (i := 138) rfl)) (hw _ (List.mem_of_getElem? (i := 40) rfl)) (hw _ (List.mem_of_getElem? (i := 139) rfl)) (by decide) d31_2 (rm32_1 l Z a0 hw a1 ar_a1 n1 u_SIOOBE_FORMATTER h0 n0 Zs hsf hj A_a1 S_SIOOBE_FORMATTER) eT pd_12 rfl (by rw [hml]; rfl) (by decide) 0 rfl (by decide) (by decide) (by decide) 5 rfl ?_
  intro T2 L9 v9 X hQ
  obtain ⟨rfl, N9, eT⟩ := hQ
  have N := Fr.app N N9
  show Go p e below _ T2 (mkF m 5 #[.val (.ref a1), .val (.int (1 : Int32))] [])
  refine own_aloadN X hx hby (.ref a1) d31_5 rfl rfl 6 rfl ?_
  refine own_iloadN X hx hby (1 : Int32) d31_6 rfl 7 rfl ?_
  refine own_callS X hx hby hZ (st := []) [(.ref a1), (.int (1 : Int32))] rfl hown (hw _ (List.mem_of_getElem? (i := 131) rfl)) (hw _ (List.mem_of_getElem? (i := 132) rfl)) (hw _ (List.mem_of_getElem? (i := 40) rfl)) (hw _ (List.mem_of_getElem? (i := 133) rfl)) (by decide) d31_7 (rm30_1 l Z a0 hw a1 ar_a1 n1 h0 n0 Zs hb0 hb1 A_a1 S__assertionsDisabled S_HI_BYTE_SHIFT S_LO_BYTE_SHIFT) eT pd_16 rfl (by rw [hml]; rfl) (by decide) 0 rfl (by decide) (by decide) (by decide) 10 rfl ?_
  intro T7 L9 v9 X hQ
  obtain ⟨rfl, N9, eT⟩ := hQ
  have N := Fr.app N N9
  show Go p e below _ T7 (mkF m 10 #[.val (.ref a1), .val (.int (1 : Int32))] [(.int (nar .char (((((ar_a1 2) &&& (255 : Int32)) <<< ((0 : Int32) &&& 31)) ||| (((ar_a1 3) &&& (255 : Int32)) <<< ((8 : Int32) &&& 31))).toUInt32.toUInt16.toUInt32.toInt32)))])
  refine own_retN X hx hby hret hlk (t := .char) (z' := (nar .char (nar .char (((((ar_a1 2) &&& (255 : Int32)) <<< ((0 : Int32) &&& 31)) ||| (((ar_a1 3) &&& (255 : Int32)) <<< ((8 : Int32) &&& 31))).toUInt32.toUInt16.toUInt32.toInt32)))) (by simp) d31_10 (by decide) (by decide) rfl ?_
  rw [eT]
  exact ⟨rfl, N, rfl⟩
theorem ef_15_2 (a1 : Addr) (m : MethodId) : entryFrame m #[(.ref a1), (.int (2 : Int32))] 2 = mkF m 0 #[.val (.ref a1), .val (.int (2 : Int32))] [] := by first | (simp [entryFrame, mkF, argsToLocals, Value.category]; done) | rfl
def Q15_2 (Z : State) (a1 : Addr) (ar_a1 : Nat → Int32) (n1 : Nat) (u_SIOOBE_FORMATTER : Value) (h0 : Heap) (n0 : Nat) (v : Option Value) (h : Heap) (L : List Loc) : Prop := v = some (.int (nar .char (((ar_a1 2) &&& (255 : Int32)).toUInt32.toUInt16.toUInt32.toInt32))) ∧ Fr n0 L ∧ h = h0
set_option maxRecDepth 65536 in
set_option maxHeartbeats 40000000 in
theorem rm15_2 (l : Launch) (Z : State) (a0 : Array Value) (hw : ∀ d ∈ tables_1, d.before a0 Z = true) (a1 : Addr) (ar_a1 : Nat → Int32) (n1 : Nat) (u_SIOOBE_FORMATTER : Value) (h0 : Heap) (n0 : Nat) (Zs : n0 ≤ h0.size) (hsf : u_SIOOBE_FORMATTER.isRef = true) (hb : ¬ ((2 : Int32) < 0 ∨ n1 ≤ Int32.toNatClampNeg (2 : Int32))) (hj : (2 : Int32) < (Nat.toInt32 n1)) (A_a1 : Afi Z h0 a1 .byte n1 ar_a1) (S_SIOOBE_FORMATTER : Sta Z h0 "jdk/internal/util/Preconditions" "SIOOBE_FORMATTER" "Ljava/util/function/BiFunction;" u_SIOOBE_FORMATTER) :
    Met1 l Z (⟨"java/lang/StringLatin1", "charAt", "([BI)C"⟩ : MethodName) jdk_43_method_2_code 2 (some .char) ({ frames := 2, cells := 0, slots := 0, locals := 27 } : Room) #[(.ref a1), (.int (2 : Int32))] h0 (Q15_2 Z a1 ar_a1 n1 u_SIOOBE_FORMATTER h0 n0) := by
  refine own_met_of (plainFor_of_name pn_22) (ef_15_2 a1) ?_
  intro p e s m below meth c s₁ X hx hby hml hZ hown hnm hret hlk eT
  have hown : s.vm.findClass "java/lang/StringLatin1" = some m.cls := hown
  have N := Fr.nil n0
  refine own_iloadN X hx hby (2 : Int32) d15_0 rfl 1 rfl ?_
  refine own_aloadN X hx hby (.ref a1) d15_1 rfl rfl 2 rfl ?_
  refine own_arraylength X hx hby hZ (Nat.toInt32 n1) eT A_a1 rfl d15_2 3 rfl ?_
  refine own_callS X hx hby hZ (st := []) [(.int (2 : Int32)), (.int (Nat.toInt32 n1))] rfl hown (hw _ (List.mem_of_getElem? (i := 75) rfl)) (hw _ (List.mem_of_getElem? (i := 76) rfl)) (hw _ (List.mem_of_getElem? (i := 8) rfl)) (hw _ (List.mem_of_getElem? (i := 77) rfl)) (by decide) d15_3 (rm16 l Z a0 hw (2 : Int32) (Nat.toInt32 n1) u_SIOOBE_FORMATTER h0 n0 Zs (by decide) hj hsf S_SIOOBE_FORMATTER) eT pd_10 rfl (by rw [hml]; rfl) (by decide) 0 rfl (by decide) (by decide) (by decide) 6 rfl ?_
  intro T3 L9 v9 X hQ
  obtain ⟨rfl, N9, eT⟩ := hQ
  have N := Fr.app N N9
  show Go p e below _ T3 (mkF m 6 #[.val (.ref a1), .val (.int (2 : Int32))] [])
  refine own_aloadN X hx hby (.ref a1) d15_6 rfl rfl 7 rfl ?_
  refine own_iloadN X hx hby (2 : Int32) d15_7 rfl 8 rfl ?_
  refine own_baload X hx hby hZ (ar_a1 2) eT A_a1 hb rfl d15_8 9 rfl ?_
  refine own_sipush X hx hby (255 : Int32) d15_9 rfl 12 rfl ?_
  refine own_iand X hx hby d15_12 13 rfl ?_
  refine own_i2c X hx hby d15_13 14 rfl ?_
  refine own_retN X hx hby hret hlk (t := .char) (z' := (nar .char (((ar_a1 2) &&& (255 : Int32)).toUInt32.toUInt16.toUInt32.toInt32))) (by simp) d15_14 (by decide) (by decide) rfl ?_
  rw [eT]
  exact ⟨rfl, N, rfl⟩
theorem ef_30_2 (a1 : Addr) (m : MethodId) : entryFrame m #[(.ref a1), (.int (2 : Int32))] 2 = mkF m 0 #[.val (.ref a1), .val (.int (2 : Int32))] [] := by first | (simp [entryFrame, mkF, argsToLocals, Value.category]; done) | rfl
def Q30_2 (Z : State) (a1 : Addr) (ar_a1 : Nat → Int32) (n1 : Nat) (h0 : Heap) (n0 : Nat) (v : Option Value) (h : Heap) (L : List Loc) : Prop := v = some (.int (nar .char (((((ar_a1 4) &&& (255 : Int32)) <<< ((0 : Int32) &&& 31)) ||| (((ar_a1 5) &&& (255 : Int32)) <<< ((8 : Int32) &&& 31))).toUInt32.toUInt16.toUInt32.toInt32))) ∧ Fr n0 L ∧ h = h0
set_option maxRecDepth 65536 in
set_option maxHeartbeats 40000000 in
theorem rm30_2 (l : Launch) (Z : State) (a0 : Array Value) (hw : ∀ d ∈ tables_1, d.before a0 Z = true) (a1 : Addr) (ar_a1 : Nat → Int32) (n1 : Nat) (h0 : Heap) (n0 : Nat) (Zs : n0 ≤ h0.size) (hb0 : ¬ ((4 : Int32) < 0 ∨ n1 ≤ Int32.toNatClampNeg (4 : Int32))) (hb1 : ¬ ((5 : Int32) < 0 ∨ n1 ≤ Int32.toNatClampNeg (5 : Int32))) (A_a1 : Afi Z h0 a1 .byte n1 ar_a1) (S__assertionsDisabled : Sta Z h0 "java/lang/StringUTF16" "$assertionsDisabled" "Z" (.int (1 : Int32))) (S_HI_BYTE_SHIFT : Sta Z h0 "java/lang/StringUTF16" "HI_BYTE_SHIFT" "I" (.int (0 : Int32))) (S_LO_BYTE_SHIFT : Sta Z h0 "java/lang/StringUTF16" "LO_BYTE_SHIFT" "I" (.int (8 : Int32))) :
    Met1 l Z (⟨"java/lang/StringUTF16", "getChar", "([BI)C"⟩ : MethodName) jdk_52_method_5_code 2 (some .char) ({ frames := 0, cells := 0, slots := 0, locals := 0 } : Room) #[(.ref a1), (.int (2 : Int32))] h0 (Q30_2 Z a1 ar_a1 n1 h0 n0) := by
  refine own_met_of (plainFor_of_name pn_33) (ef_30_2 a1) ?_
  intro p e s m below meth c s₁ X hx hby hml hZ hown hnm hret hlk eT
  have hown : s.vm.findClass "java/lang/StringUTF16" = some m.cls := hown
  have N := Fr.nil n0
  refine own_getS X hx hby hZ hown (host := "") (Or.inl (hw _ (List.mem_of_getElem? (i := 128) rfl))) Via.refl eT S__assertionsDisabled d30_0 3 rfl ?_
  intro T0 X eT
  have c3 : ¬ (1 : Int32) = (0 : Int32) := by decide
  refine own_if_ne X hx hby d30_3 28 6 (by decide) rfl (fun _ => ?_) (fun q => absurd q c3)
  refine own_iloadN X hx hby (2 : Int32) d30_28 rfl 29 rfl ?_
  refine own_iconst X hx hby (1 : Int32) d30_29 rfl 30 rfl ?_
  refine own_ishl X hx hby d30_30 31 rfl ?_
  refine own_top (v' := (.int (4 : Int32))) (congrArg Value.int (by decide)) ?_
  refine own_istoreN X hx hby d30_31 rfl (l' := #[.val (.ref a1), .val (.int (4 : Int32))]) rfl 32 rfl ?_
  refine own_aloadN X hx hby (.ref a1) d30_32 rfl rfl 33 rfl ?_
  refine own_iloadN X hx hby (4 : Int32) d30_33 rfl 34 rfl ?_
  refine own_iinc X hx hby d30_34 (x := (4 : Int32)) rfl (by decide) (l' := #[.val (.ref a1), .val (.int (5 : Int32))]) rfl 37 rfl ?_
  refine own_baload X hx hby hZ (ar_a1 4) eT A_a1 hb0 rfl d30_37 38 rfl ?_
  refine own_sipush X hx hby (255 : Int32) d30_38 rfl 41 rfl ?_
  refine own_iand X hx hby d30_41 42 rfl ?_
  refine own_getS X hx hby hZ hown (host := "") (Or.inl (hw _ (List.mem_of_getElem? (i := 129) rfl))) Via.refl eT S_HI_BYTE_SHIFT d30_42 45 rfl ?_
  intro T42 X eT
  refine own_ishl X hx hby d30_45 46 rfl ?_
  refine own_aloadN X hx hby (.ref a1) d30_46 rfl rfl 47 rfl ?_
  refine own_iloadN X hx hby (5 : Int32) d30_47 rfl 48 rfl ?_
  refine own_baload X hx hby hZ (ar_a1 5) eT A_a1 hb1 rfl d30_48 49 rfl ?_
  refine own_sipush X hx hby (255 : Int32) d30_49 rfl 52 rfl ?_
  refine own_iand X hx hby d30_52 53 rfl ?_
  refine own_getS X hx hby hZ hown (host := "") (Or.inl (hw _ (List.mem_of_getElem? (i := 130) rfl))) Via.refl eT S_LO_BYTE_SHIFT d30_53 56 rfl ?_
  intro T53 X eT
  refine own_ishl X hx hby d30_56 57 rfl ?_
  refine own_ior X hx hby d30_57 58 rfl ?_
  refine own_i2c X hx hby d30_58 59 rfl ?_
  refine own_retN X hx hby hret hlk (t := .char) (z' := (nar .char (((((ar_a1 4) &&& (255 : Int32)) <<< ((0 : Int32) &&& 31)) ||| (((ar_a1 5) &&& (255 : Int32)) <<< ((8 : Int32) &&& 31))).toUInt32.toUInt16.toUInt32.toInt32))) (by simp) d30_59 (by decide) (by decide) rfl ?_
  rw [eT]
  exact ⟨rfl, N, rfl⟩
theorem ef_32_2 (a2 : Addr) (m : MethodId) : entryFrame m #[(.int (2 : Int32)), (.ref a2)] 2 = mkF m 0 #[.val (.int (2 : Int32)), .val (.ref a2)] [] := by first | (simp [entryFrame, mkF, argsToLocals, Value.category]; done) | rfl
def Q32_2 (Z : State) (a2 : Addr) (ar_a2 : Nat → Int32) (n1 : Nat) (u_SIOOBE_FORMATTER : Value) (h0 : Heap) (n0 : Nat) (v : Option Value) (h : Heap) (L : List Loc) : Prop := v = none ∧ Fr n0 L ∧ h = h0
set_option maxRecDepth 65536 in
set_option maxHeartbeats 40000000 in
theorem rm32_2 (l : Launch) (Z : State) (a0 : Array Value) (hw : ∀ d ∈ tables_1, d.before a0 Z = true) (a2 : Addr) (ar_a2 : Nat → Int32) (n1 : Nat) (u_SIOOBE_FORMATTER : Value) (h0 : Heap) (n0 : Nat) (Zs : n0 ≤ h0.size) (hsf : u_SIOOBE_FORMATTER.isRef = true) (hj : (2 : Int32) < ((Nat.toInt32 n1) >>> ((1 : Int32) &&& 31))) (A_a2 : Afi Z h0 a2 .byte n1 ar_a2) (S_SIOOBE_FORMATTER : Sta Z h0 "jdk/internal/util/Preconditions" "SIOOBE_FORMATTER" "Ljava/util/function/BiFunction;" u_SIOOBE_FORMATTER) :
    Met1 l Z (⟨"java/lang/StringUTF16", "checkIndex", "(I[B)V"⟩ : MethodName) jdk_52_method_91_code 2 none ({ frames := 2, cells := 0, slots := 0, locals := 27 } : Room) #[(.int (2 : Int32)), (.ref a2)] h0 (Q32_2 Z a2 ar_a2 n1 u_SIOOBE_FORMATTER h0 n0) := by
  refine own_met_of (plainFor_of_name pn_33) (ef_32_2 a2) ?_
  intro p e s m below meth c s₁ X hx hby hml hZ hown hnm hret hlk eT
  have hown : s.vm.findClass "java/lang/StringUTF16" = some m.cls := hown
  have N := Fr.nil n0
  refine own_iloadN X hx hby (2 : Int32) d32_0 rfl 1 rfl ?_
  refine own_aloadN X hx hby (.ref a2) d32_1 rfl rfl 2 rfl ?_
  refine own_callS X hx hby hZ (st := [(.int (2 : Int32))]) [(.ref a2)] rfl hown (hw _ (List.mem_of_getElem? (i := 140) rfl)) (hw _ (List.mem_of_getElem? (i := 141) rfl)) (hw _ (List.mem_of_getElem? (i := 40) rfl)) (hw _ (List.mem_of_getElem? (i := 142) rfl)) (by decide) d32_2 (rm33 l Z a0 hw a2 ar_a2 n1 h0 n0 Zs A_a2) eT pd_14 rfl (by rw [hml]; rfl) (by decide) 1 rfl (by decide) (by decide) (by decide) 5 rfl ?_
  intro T2 L9 v9 X hQ
  obtain ⟨rfl, N9, eT⟩ := hQ
  have N := Fr.app N N9
  show Go p e below _ T2 (mkF m 5 #[.val (.int (2 : Int32)), .val (.ref a2)] [(.int ((Nat.toInt32 n1) >>> ((1 : Int32) &&& 31))), (.int (2 : Int32))])
  refine own_callS X hx hby hZ (st := []) [(.int (2 : Int32)), (.int ((Nat.toInt32 n1) >>> ((1 : Int32) &&& 31)))] rfl hown (hw _ (List.mem_of_getElem? (i := 143) rfl)) (hw _ (List.mem_of_getElem? (i := 76) rfl)) (hw _ (List.mem_of_getElem? (i := 8) rfl)) (hw _ (List.mem_of_getElem? (i := 77) rfl)) (by decide) d32_5 (rm16 l Z a0 hw (2 : Int32) ((Nat.toInt32 n1) >>> ((1 : Int32) &&& 31)) u_SIOOBE_FORMATTER h0 n0 Zs (by decide) hj hsf S_SIOOBE_FORMATTER) eT pd_10 rfl (by rw [hml]; rfl) (by decide) 0 rfl (by decide) (by decide) (by decide) 8 rfl ?_
  intro T5 L9 v9 X hQ
  obtain ⟨rfl, N9, eT⟩ := hQ
  have N := Fr.app N N9
  show Go p e below _ T5 (mkF m 8 #[.val (.int (2 : Int32)), .val (.ref a2)] [])
  refine own_ret X hx hby hret hlk d32_8 (by decide) (by decide) ?_
  rw [eT]
  exact ⟨rfl, N, rfl⟩
theorem ef_31_2 (a1 : Addr) (m : MethodId) : entryFrame m #[(.ref a1), (.int (2 : Int32))] 2 = mkF m 0 #[.val (.ref a1), .val (.int (2 : Int32))] [] := by first | (simp [entryFrame, mkF, argsToLocals, Value.category]; done) | rfl
def Q31_2 (Z : State) (a1 : Addr) (ar_a1 : Nat → Int32) (n1 : Nat) (u_SIOOBE_FORMATTER : Value) (h0 : Heap) (n0 : Nat) (v : Option Value) (h : Heap) (L : List Loc) : Prop := v = some (.int (nar .char (nar .char (((((ar_a1 4) &&& (255 : Int32)) <<< ((0 : Int32) &&& 31)) ||| (((ar_a1 5) &&& (255 : Int32)) <<< ((8 : Int32) &&& 31))).toUInt32.toUInt16.toUInt32.toInt32)))) ∧ Fr n0 L ∧ h = h0
set_option maxRecDepth 65536 in
set_option maxHeartbeats 40000000 in
theorem rm31_2 (l : Launch) (Z : State) (a0 : Array Value) (hw : ∀ d ∈ tables_1, d.before a0 Z = true) (a1 : Addr) (ar_a1 : Nat → Int32) (n1 : Nat) (u_SIOOBE_FORMATTER : Value) (h0 : Heap) (n0 : Nat) (Zs : n0 ≤ h0.size) (hsf : u_SIOOBE_FORMATTER.isRef = true) (hj : (2 : Int32) < ((Nat.toInt32 n1) >>> ((1 : Int32) &&& 31))) (hb0 : ¬ ((4 : Int32) < 0 ∨ n1 ≤ Int32.toNatClampNeg (4 : Int32))) (hb1 : ¬ ((5 : Int32) < 0 ∨ n1 ≤ Int32.toNatClampNeg (5 : Int32))) (A_a1 : Afi Z h0 a1 .byte n1 ar_a1) (S_SIOOBE_FORMATTER : Sta Z h0 "jdk/internal/util/Preconditions" "SIOOBE_FORMATTER" "Ljava/util/function/BiFunction;" u_SIOOBE_FORMATTER) (S__assertionsDisabled : Sta Z h0 "java/lang/StringUTF16" "$assertionsDisabled" "Z" (.int (1 : Int32))) (S_HI_BYTE_SHIFT : Sta Z h0 "java/lang/StringUTF16" "HI_BYTE_SHIFT" "I" (.int (0 : Int32))) (S_LO_BYTE_SHIFT : Sta Z h0 "java/lang/StringUTF16" "LO_BYTE_SHIFT" "I" (.int (8 : Int32))) :
    Met1 l Z (⟨"java/lang/StringUTF16", "charAt", "([BI)C"⟩ : MethodName) jdk_52_method_83_code 2 (some .char) ({ frames := 3, cells := 0, slots := 0, locals := 40 } : Room) #[(.ref a1), (.int (2 : Int32))] h0 (Q31_2 Z a1 ar_a1 n1 u_SIOOBE_FORMATTER h0 n0) := by
  refine own_met_of (plainFor_of_name pn_33) (ef_31_2 a1) ?_
  intro p e s m below meth c s₁ X hx hby hml hZ hown hnm hret hlk eT
  have hown : s.vm.findClass "java/lang/StringUTF16" = some m.cls := hown
  have N := Fr.nil n0
  refine own_iloadN X hx hby (2 : Int32) d31_0 rfl 1 rfl ?_
  refine own_aloadN X hx hby (.ref a1) d31_1 rfl rfl 2 rfl ?_
  refine own_callS X hx hby hZ (st := []) [(.int (2 : Int32)), (.ref a1)] rfl hown (hw _ (List.mem_of_getElem? (i := 137) rfl)) (hw _ (List.mem_of_getElem? (i := 138) rfl)) (hw _ (List.mem_of_getElem? (i := 40) rfl)) (hw _ (List.mem_of_getElem? (i := 139) rfl)) (by decide) d31_2 (rm32_2 l Z a0 hw a1 ar_a1 n1 u_SIOOBE_FORMATTER h0 n0 Zs hsf hj A_a1 S_SIOOBE_FORMATTER) eT pd_12 rfl (by rw [hml]; rfl) (by decide) 0 rfl (by decide) (by decide) (by decide) 5 rfl ?_
  intro T2 L9 v9 X hQ
  obtain ⟨rfl, N9, eT⟩ := hQ
  have N := Fr.app N N9
  show Go p e below _ T2 (mkF m 5 #[.val (.ref a1), .val (.int (2 : Int32))] [])
  refine own_aloadN X hx hby (.ref a1) d31_5 rfl rfl 6 rfl ?_
  refine own_iloadN X hx hby (2 : Int32) d31_6 rfl 7 rfl ?_
  refine own_callS X hx hby hZ (st := []) [(.ref a1), (.int (2 : Int32))] rfl hown (hw _ (List.mem_of_getElem? (i := 131) rfl)) (hw _ (List.mem_of_getElem? (i := 132) rfl)) (hw _ (List.mem_of_getElem? (i := 40) rfl)) (hw _ (List.mem_of_getElem? (i := 133) rfl)) (by decide) d31_7 (rm30_2 l Z a0 hw a1 ar_a1 n1 h0 n0 Zs hb0 hb1 A_a1 S__assertionsDisabled S_HI_BYTE_SHIFT S_LO_BYTE_SHIFT) eT pd_16 rfl (by rw [hml]; rfl) (by decide) 0 rfl (by decide) (by decide) (by decide) 10 rfl ?_
  intro T7 L9 v9 X hQ
  obtain ⟨rfl, N9, eT⟩ := hQ
  have N := Fr.app N N9
  show Go p e below _ T7 (mkF m 10 #[.val (.ref a1), .val (.int (2 : Int32))] [(.int (nar .char (((((ar_a1 4) &&& (255 : Int32)) <<< ((0 : Int32) &&& 31)) ||| (((ar_a1 5) &&& (255 : Int32)) <<< ((8 : Int32) &&& 31))).toUInt32.toUInt16.toUInt32.toInt32)))])
  refine own_retN X hx hby hret hlk (t := .char) (z' := (nar .char (nar .char (((((ar_a1 4) &&& (255 : Int32)) <<< ((0 : Int32) &&& 31)) ||| (((ar_a1 5) &&& (255 : Int32)) <<< ((8 : Int32) &&& 31))).toUInt32.toUInt16.toUInt32.toInt32)))) (by simp) d31_10 (by decide) (by decide) rfl ?_
  rw [eT]
  exact ⟨rfl, N, rfl⟩
theorem ef_15_3 (a1 : Addr) (m : MethodId) : entryFrame m #[(.ref a1), (.int (3 : Int32))] 2 = mkF m 0 #[.val (.ref a1), .val (.int (3 : Int32))] [] := by first | (simp [entryFrame, mkF, argsToLocals, Value.category]; done) | rfl
def Q15_3 (Z : State) (a1 : Addr) (ar_a1 : Nat → Int32) (n1 : Nat) (u_SIOOBE_FORMATTER : Value) (h0 : Heap) (n0 : Nat) (v : Option Value) (h : Heap) (L : List Loc) : Prop := v = some (.int (nar .char (((ar_a1 3) &&& (255 : Int32)).toUInt32.toUInt16.toUInt32.toInt32))) ∧ Fr n0 L ∧ h = h0
set_option maxRecDepth 65536 in
set_option maxHeartbeats 40000000 in
theorem rm15_3 (l : Launch) (Z : State) (a0 : Array Value) (hw : ∀ d ∈ tables_1, d.before a0 Z = true) (a1 : Addr) (ar_a1 : Nat → Int32) (n1 : Nat) (u_SIOOBE_FORMATTER : Value) (h0 : Heap) (n0 : Nat) (Zs : n0 ≤ h0.size) (hsf : u_SIOOBE_FORMATTER.isRef = true) (hb : ¬ ((3 : Int32) < 0 ∨ n1 ≤ Int32.toNatClampNeg (3 : Int32))) (hj : (3 : Int32) < (Nat.toInt32 n1)) (A_a1 : Afi Z h0 a1 .byte n1 ar_a1) (S_SIOOBE_FORMATTER : Sta Z h0 "jdk/internal/util/Preconditions" "SIOOBE_FORMATTER" "Ljava/util/function/BiFunction;" u_SIOOBE_FORMATTER) :
    Met1 l Z (⟨"java/lang/StringLatin1", "charAt", "([BI)C"⟩ : MethodName) jdk_43_method_2_code 2 (some .char) ({ frames := 2, cells := 0, slots := 0, locals := 27 } : Room) #[(.ref a1), (.int (3 : Int32))] h0 (Q15_3 Z a1 ar_a1 n1 u_SIOOBE_FORMATTER h0 n0) := by
  refine own_met_of (plainFor_of_name pn_22) (ef_15_3 a1) ?_
  intro p e s m below meth c s₁ X hx hby hml hZ hown hnm hret hlk eT
  have hown : s.vm.findClass "java/lang/StringLatin1" = some m.cls := hown
  have N := Fr.nil n0
  refine own_iloadN X hx hby (3 : Int32) d15_0 rfl 1 rfl ?_
  refine own_aloadN X hx hby (.ref a1) d15_1 rfl rfl 2 rfl ?_
  refine own_arraylength X hx hby hZ (Nat.toInt32 n1) eT A_a1 rfl d15_2 3 rfl ?_
  refine own_callS X hx hby hZ (st := []) [(.int (3 : Int32)), (.int (Nat.toInt32 n1))] rfl hown (hw _ (List.mem_of_getElem? (i := 75) rfl)) (hw _ (List.mem_of_getElem? (i := 76) rfl)) (hw _ (List.mem_of_getElem? (i := 8) rfl)) (hw _ (List.mem_of_getElem? (i := 77) rfl)) (by decide) d15_3 (rm16 l Z a0 hw (3 : Int32) (Nat.toInt32 n1) u_SIOOBE_FORMATTER h0 n0 Zs (by decide) hj hsf S_SIOOBE_FORMATTER) eT pd_10 rfl (by rw [hml]; rfl) (by decide) 0 rfl (by decide) (by decide) (by decide) 6 rfl ?_
  intro T3 L9 v9 X hQ
  obtain ⟨rfl, N9, eT⟩ := hQ
  have N := Fr.app N N9
  show Go p e below _ T3 (mkF m 6 #[.val (.ref a1), .val (.int (3 : Int32))] [])
  refine own_aloadN X hx hby (.ref a1) d15_6 rfl rfl 7 rfl ?_
  refine own_iloadN X hx hby (3 : Int32) d15_7 rfl 8 rfl ?_
  refine own_baload X hx hby hZ (ar_a1 3) eT A_a1 hb rfl d15_8 9 rfl ?_
  refine own_sipush X hx hby (255 : Int32) d15_9 rfl 12 rfl ?_
  refine own_iand X hx hby d15_12 13 rfl ?_
  refine own_i2c X hx hby d15_13 14 rfl ?_
  refine own_retN X hx hby hret hlk (t := .char) (z' := (nar .char (((ar_a1 3) &&& (255 : Int32)).toUInt32.toUInt16.toUInt32.toInt32))) (by simp) d15_14 (by decide) (by decide) rfl ?_
  rw [eT]
  exact ⟨rfl, N, rfl⟩
theorem ef_30_3 (a1 : Addr) (m : MethodId) : entryFrame m #[(.ref a1), (.int (3 : Int32))] 2 = mkF m 0 #[.val (.ref a1), .val (.int (3 : Int32))] [] := by first | (simp [entryFrame, mkF, argsToLocals, Value.category]; done) | rfl
def Q30_3 (Z : State) (a1 : Addr) (ar_a1 : Nat → Int32) (n1 : Nat) (h0 : Heap) (n0 : Nat) (v : Option Value) (h : Heap) (L : List Loc) : Prop := v = some (.int (nar .char (((((ar_a1 6) &&& (255 : Int32)) <<< ((0 : Int32) &&& 31)) ||| (((ar_a1 7) &&& (255 : Int32)) <<< ((8 : Int32) &&& 31))).toUInt32.toUInt16.toUInt32.toInt32))) ∧ Fr n0 L ∧ h = h0
set_option maxRecDepth 65536 in
set_option maxHeartbeats 40000000 in
theorem rm30_3 (l : Launch) (Z : State) (a0 : Array Value) (hw : ∀ d ∈ tables_1, d.before a0 Z = true) (a1 : Addr) (ar_a1 : Nat → Int32) (n1 : Nat) (h0 : Heap) (n0 : Nat) (Zs : n0 ≤ h0.size) (hb0 : ¬ ((6 : Int32) < 0 ∨ n1 ≤ Int32.toNatClampNeg (6 : Int32))) (hb1 : ¬ ((7 : Int32) < 0 ∨ n1 ≤ Int32.toNatClampNeg (7 : Int32))) (A_a1 : Afi Z h0 a1 .byte n1 ar_a1) (S__assertionsDisabled : Sta Z h0 "java/lang/StringUTF16" "$assertionsDisabled" "Z" (.int (1 : Int32))) (S_HI_BYTE_SHIFT : Sta Z h0 "java/lang/StringUTF16" "HI_BYTE_SHIFT" "I" (.int (0 : Int32))) (S_LO_BYTE_SHIFT : Sta Z h0 "java/lang/StringUTF16" "LO_BYTE_SHIFT" "I" (.int (8 : Int32))) :
    Met1 l Z (⟨"java/lang/StringUTF16", "getChar", "([BI)C"⟩ : MethodName) jdk_52_method_5_code 2 (some .char) ({ frames := 0, cells := 0, slots := 0, locals := 0 } : Room) #[(.ref a1), (.int (3 : Int32))] h0 (Q30_3 Z a1 ar_a1 n1 h0 n0) := by
  refine own_met_of (plainFor_of_name pn_33) (ef_30_3 a1) ?_
  intro p e s m below meth c s₁ X hx hby hml hZ hown hnm hret hlk eT
  have hown : s.vm.findClass "java/lang/StringUTF16" = some m.cls := hown
  have N := Fr.nil n0
  refine own_getS X hx hby hZ hown (host := "") (Or.inl (hw _ (List.mem_of_getElem? (i := 128) rfl))) Via.refl eT S__assertionsDisabled d30_0 3 rfl ?_
  intro T0 X eT
  have c3 : ¬ (1 : Int32) = (0 : Int32) := by decide
  refine own_if_ne X hx hby d30_3 28 6 (by decide) rfl (fun _ => ?_) (fun q => absurd q c3)
  refine own_iloadN X hx hby (3 : Int32) d30_28 rfl 29 rfl ?_
  refine own_iconst X hx hby (1 : Int32) d30_29 rfl 30 rfl ?_
  refine own_ishl X hx hby d30_30 31 rfl ?_
  refine own_top (v' := (.int (6 : Int32))) (congrArg Value.int (by decide)) ?_
  refine own_istoreN X hx hby d30_31 rfl (l' := #[.val (.ref a1), .val (.int (6 : Int32))]) rfl 32 rfl ?_
  refine own_aloadN X hx hby (.ref a1) d30_32 rfl rfl 33 rfl ?_
  refine own_iloadN X hx hby (6 : Int32) d30_33 rfl 34 rfl ?_
  refine own_iinc X hx hby d30_34 (x := (6 : Int32)) rfl (by decide) (l' := #[.val (.ref a1), .val (.int (7 : Int32))]) rfl 37 rfl ?_
  refine own_baload X hx hby hZ (ar_a1 6) eT A_a1 hb0 rfl d30_37 38 rfl ?_
  refine own_sipush X hx hby (255 : Int32) d30_38 rfl 41 rfl ?_
  refine own_iand X hx hby d30_41 42 rfl ?_
  refine own_getS X hx hby hZ hown (host := "") (Or.inl (hw _ (List.mem_of_getElem? (i := 129) rfl))) Via.refl eT S_HI_BYTE_SHIFT d30_42 45 rfl ?_
  intro T42 X eT
  refine own_ishl X hx hby d30_45 46 rfl ?_
  refine own_aloadN X hx hby (.ref a1) d30_46 rfl rfl 47 rfl ?_
  refine own_iloadN X hx hby (7 : Int32) d30_47 rfl 48 rfl ?_
  refine own_baload X hx hby hZ (ar_a1 7) eT A_a1 hb1 rfl d30_48 49 rfl ?_
  refine own_sipush X hx hby (255 : Int32) d30_49 rfl 52 rfl ?_
  refine own_iand X hx hby d30_52 53 rfl ?_
  refine own_getS X hx hby hZ hown (host := "") (Or.inl (hw _ (List.mem_of_getElem? (i := 130) rfl))) Via.refl eT S_LO_BYTE_SHIFT d30_53 56 rfl ?_
  intro T53 X eT
  refine own_ishl X hx hby d30_56 57 rfl ?_
  refine own_ior X hx hby d30_57 58 rfl ?_
  refine own_i2c X hx hby d30_58 59 rfl ?_
  refine own_retN X hx hby hret hlk (t := .char) (z' := (nar .char (((((ar_a1 6) &&& (255 : Int32)) <<< ((0 : Int32) &&& 31)) ||| (((ar_a1 7) &&& (255 : Int32)) <<< ((8 : Int32) &&& 31))).toUInt32.toUInt16.toUInt32.toInt32))) (by simp) d30_59 (by decide) (by decide) rfl ?_
  rw [eT]
  exact ⟨rfl, N, rfl⟩
theorem ef_32_3 (a2 : Addr) (m : MethodId) : entryFrame m #[(.int (3 : Int32)), (.ref a2)] 2 = mkF m 0 #[.val (.int (3 : Int32)), .val (.ref a2)] [] := by first | (simp [entryFrame, mkF, argsToLocals, Value.category]; done) | rfl
def Q32_3 (Z : State) (a2 : Addr) (ar_a2 : Nat → Int32) (n1 : Nat) (u_SIOOBE_FORMATTER : Value) (h0 : Heap) (n0 : Nat) (v : Option Value) (h : Heap) (L : List Loc) : Prop := v = none ∧ Fr n0 L ∧ h = h0
set_option maxRecDepth 65536 in
set_option maxHeartbeats 40000000 in
theorem rm32_3 (l : Launch) (Z : State) (a0 : Array Value) (hw : ∀ d ∈ tables_1, d.before a0 Z = true) (a2 : Addr) (ar_a2 : Nat → Int32) (n1 : Nat) (u_SIOOBE_FORMATTER : Value) (h0 : Heap) (n0 : Nat) (Zs : n0 ≤ h0.size) (hsf : u_SIOOBE_FORMATTER.isRef = true) (hj : (3 : Int32) < ((Nat.toInt32 n1) >>> ((1 : Int32) &&& 31))) (A_a2 : Afi Z h0 a2 .byte n1 ar_a2) (S_SIOOBE_FORMATTER : Sta Z h0 "jdk/internal/util/Preconditions" "SIOOBE_FORMATTER" "Ljava/util/function/BiFunction;" u_SIOOBE_FORMATTER) :
    Met1 l Z (⟨"java/lang/StringUTF16", "checkIndex", "(I[B)V"⟩ : MethodName) jdk_52_method_91_code 2 none ({ frames := 2, cells := 0, slots := 0, locals := 27 } : Room) #[(.int (3 : Int32)), (.ref a2)] h0 (Q32_3 Z a2 ar_a2 n1 u_SIOOBE_FORMATTER h0 n0) := by
  refine own_met_of (plainFor_of_name pn_33) (ef_32_3 a2) ?_
  intro p e s m below meth c s₁ X hx hby hml hZ hown hnm hret hlk eT
  have hown : s.vm.findClass "java/lang/StringUTF16" = some m.cls := hown
  have N := Fr.nil n0
  refine own_iloadN X hx hby (3 : Int32) d32_0 rfl 1 rfl ?_
  refine own_aloadN X hx hby (.ref a2) d32_1 rfl rfl 2 rfl ?_
  refine own_callS X hx hby hZ (st := [(.int (3 : Int32))]) [(.ref a2)] rfl hown (hw _ (List.mem_of_getElem? (i := 140) rfl)) (hw _ (List.mem_of_getElem? (i := 141) rfl)) (hw _ (List.mem_of_getElem? (i := 40) rfl)) (hw _ (List.mem_of_getElem? (i := 142) rfl)) (by decide) d32_2 (rm33 l Z a0 hw a2 ar_a2 n1 h0 n0 Zs A_a2) eT pd_14 rfl (by rw [hml]; rfl) (by decide) 1 rfl (by decide) (by decide) (by decide) 5 rfl ?_
  intro T2 L9 v9 X hQ
  obtain ⟨rfl, N9, eT⟩ := hQ
  have N := Fr.app N N9
  show Go p e below _ T2 (mkF m 5 #[.val (.int (3 : Int32)), .val (.ref a2)] [(.int ((Nat.toInt32 n1) >>> ((1 : Int32) &&& 31))), (.int (3 : Int32))])
  refine own_callS X hx hby hZ (st := []) [(.int (3 : Int32)), (.int ((Nat.toInt32 n1) >>> ((1 : Int32) &&& 31)))] rfl hown (hw _ (List.mem_of_getElem? (i := 143) rfl)) (hw _ (List.mem_of_getElem? (i := 76) rfl)) (hw _ (List.mem_of_getElem? (i := 8) rfl)) (hw _ (List.mem_of_getElem? (i := 77) rfl)) (by decide) d32_5 (rm16 l Z a0 hw (3 : Int32) ((Nat.toInt32 n1) >>> ((1 : Int32) &&& 31)) u_SIOOBE_FORMATTER h0 n0 Zs (by decide) hj hsf S_SIOOBE_FORMATTER) eT pd_10 rfl (by rw [hml]; rfl) (by decide) 0 rfl (by decide) (by decide) (by decide) 8 rfl ?_
  intro T5 L9 v9 X hQ
  obtain ⟨rfl, N9, eT⟩ := hQ
  have N := Fr.app N N9
  show Go p e below _ T5 (mkF m 8 #[.val (.int (3 : Int32)), .val (.ref a2)] [])
  refine own_ret X hx hby hret hlk d32_8 (by decide) (by decide) ?_
  rw [eT]
  exact ⟨rfl, N, rfl⟩
theorem ef_31_3 (a1 : Addr) (m : MethodId) : entryFrame m #[(.ref a1), (.int (3 : Int32))] 2 = mkF m 0 #[.val (.ref a1), .val (.int (3 : Int32))] [] := by first | (simp [entryFrame, mkF, argsToLocals, Value.category]; done) | rfl
def Q31_3 (Z : State) (a1 : Addr) (ar_a1 : Nat → Int32) (n1 : Nat) (u_SIOOBE_FORMATTER : Value) (h0 : Heap) (n0 : Nat) (v : Option Value) (h : Heap) (L : List Loc) : Prop := v = some (.int (nar .char (nar .char (((((ar_a1 6) &&& (255 : Int32)) <<< ((0 : Int32) &&& 31)) ||| (((ar_a1 7) &&& (255 : Int32)) <<< ((8 : Int32) &&& 31))).toUInt32.toUInt16.toUInt32.toInt32)))) ∧ Fr n0 L ∧ h = h0
set_option maxRecDepth 65536 in
set_option maxHeartbeats 40000000 in
theorem rm31_3 (l : Launch) (Z : State) (a0 : Array Value) (hw : ∀ d ∈ tables_1, d.before a0 Z = true) (a1 : Addr) (ar_a1 : Nat → Int32) (n1 : Nat) (u_SIOOBE_FORMATTER : Value) (h0 : Heap) (n0 : Nat) (Zs : n0 ≤ h0.size) (hsf : u_SIOOBE_FORMATTER.isRef = true) (hj : (3 : Int32) < ((Nat.toInt32 n1) >>> ((1 : Int32) &&& 31))) (hb0 : ¬ ((6 : Int32) < 0 ∨ n1 ≤ Int32.toNatClampNeg (6 : Int32))) (hb1 : ¬ ((7 : Int32) < 0 ∨ n1 ≤ Int32.toNatClampNeg (7 : Int32))) (A_a1 : Afi Z h0 a1 .byte n1 ar_a1) (S_SIOOBE_FORMATTER : Sta Z h0 "jdk/internal/util/Preconditions" "SIOOBE_FORMATTER" "Ljava/util/function/BiFunction;" u_SIOOBE_FORMATTER) (S__assertionsDisabled : Sta Z h0 "java/lang/StringUTF16" "$assertionsDisabled" "Z" (.int (1 : Int32))) (S_HI_BYTE_SHIFT : Sta Z h0 "java/lang/StringUTF16" "HI_BYTE_SHIFT" "I" (.int (0 : Int32))) (S_LO_BYTE_SHIFT : Sta Z h0 "java/lang/StringUTF16" "LO_BYTE_SHIFT" "I" (.int (8 : Int32))) :
    Met1 l Z (⟨"java/lang/StringUTF16", "charAt", "([BI)C"⟩ : MethodName) jdk_52_method_83_code 2 (some .char) ({ frames := 3, cells := 0, slots := 0, locals := 40 } : Room) #[(.ref a1), (.int (3 : Int32))] h0 (Q31_3 Z a1 ar_a1 n1 u_SIOOBE_FORMATTER h0 n0) := by
  refine own_met_of (plainFor_of_name pn_33) (ef_31_3 a1) ?_
  intro p e s m below meth c s₁ X hx hby hml hZ hown hnm hret hlk eT
  have hown : s.vm.findClass "java/lang/StringUTF16" = some m.cls := hown
  have N := Fr.nil n0
  refine own_iloadN X hx hby (3 : Int32) d31_0 rfl 1 rfl ?_
  refine own_aloadN X hx hby (.ref a1) d31_1 rfl rfl 2 rfl ?_
  refine own_callS X hx hby hZ (st := []) [(.int (3 : Int32)), (.ref a1)] rfl hown (hw _ (List.mem_of_getElem? (i := 137) rfl)) (hw _ (List.mem_of_getElem? (i := 138) rfl)) (hw _ (List.mem_of_getElem? (i := 40) rfl)) (hw _ (List.mem_of_getElem? (i := 139) rfl)) (by decide) d31_2 (rm32_3 l Z a0 hw a1 ar_a1 n1 u_SIOOBE_FORMATTER h0 n0 Zs hsf hj A_a1 S_SIOOBE_FORMATTER) eT pd_12 rfl (by rw [hml]; rfl) (by decide) 0 rfl (by decide) (by decide) (by decide) 5 rfl ?_
  intro T2 L9 v9 X hQ
  obtain ⟨rfl, N9, eT⟩ := hQ
  have N := Fr.app N N9
  show Go p e below _ T2 (mkF m 5 #[.val (.ref a1), .val (.int (3 : Int32))] [])
  refine own_aloadN X hx hby (.ref a1) d31_5 rfl rfl 6 rfl ?_
  refine own_iloadN X hx hby (3 : Int32) d31_6 rfl 7 rfl ?_
  refine own_callS X hx hby hZ (st := []) [(.ref a1), (.int (3 : Int32))] rfl hown (hw _ (List.mem_of_getElem? (i := 131) rfl)) (hw _ (List.mem_of_getElem? (i := 132) rfl)) (hw _ (List.mem_of_getElem? (i := 40) rfl)) (hw _ (List.mem_of_getElem? (i := 133) rfl)) (by decide) d31_7 (rm30_3 l Z a0 hw a1 ar_a1 n1 h0 n0 Zs hb0 hb1 A_a1 S__assertionsDisabled S_HI_BYTE_SHIFT S_LO_BYTE_SHIFT) eT pd_16 rfl (by rw [hml]; rfl) (by decide) 0 rfl (by decide) (by decide) (by decide) 10 rfl ?_
  intro T7 L9 v9 X hQ
  obtain ⟨rfl, N9, eT⟩ := hQ
  have N := Fr.app N N9
  show Go p e below _ T7 (mkF m 10 #[.val (.ref a1), .val (.int (3 : Int32))] [(.int (nar .char (((((ar_a1 6) &&& (255 : Int32)) <<< ((0 : Int32) &&& 31)) ||| (((ar_a1 7) &&& (255 : Int32)) <<< ((8 : Int32) &&& 31))).toUInt32.toUInt16.toUInt32.toInt32)))])
  refine own_retN X hx hby hret hlk (t := .char) (z' := (nar .char (nar .char (((((ar_a1 6) &&& (255 : Int32)) <<< ((0 : Int32) &&& 31)) ||| (((ar_a1 7) &&& (255 : Int32)) <<< ((8 : Int32) &&& 31))).toUInt32.toUInt16.toUInt32.toInt32)))) (by simp) d31_10 (by decide) (by decide) rfl ?_
  rw [eT]
  exact ⟨rfl, N, rfl⟩
theorem ef_13_0 (a1 : Addr) (m : MethodId) : entryFrame m #[(.ref a1), (.int (0 : Int32))] 2 = mkF m 0 #[.val (.ref a1), .val (.int (0 : Int32))] [] := by first | (simp [entryFrame, mkF, argsToLocals, Value.category]; done) | rfl
def Q13_0 (Z : State) (a1 : Addr) (nn : Nat) (cc : Nat → Int32) (r1 : Addr) (ar_r1 : Nat → Int32) (n1 : Nat) (u_COMPACT_STRINGS : Int32) (u_SIOOBE_FORMATTER : Value) (w_coder_a1 : Int32) (h0 : Heap) (n0 : Nat) (v : Option Value) (h : Heap) (L : List Loc) : Prop := v = some (.int (cc 0)) ∧ Fr n0 L ∧ h = h0
set_option maxRecDepth 65536 in
set_option maxHeartbeats 40000000 in
theorem rm13_0 (l : Launch) (Z : State) (a0 : Array Value) (hw : ∀ d ∈ tables_1, d.before a0 Z = true) (a1 : Addr) (nn : Nat) (cc : Nat → Int32) (r1 : Addr) (ar_r1 : Nat → Int32) (n1 : Nat) (u_COMPACT_STRINGS : Int32) (u_SIOOBE_FORMATTER : Value) (w_coder_a1 : Int32) (h0 : Heap) (n0 : Nat) (Zs : n0 ≤ h0.size) (hcs : ¬ u_COMPACT_STRINGS = (0 : Int32)) (hsf : u_SIOOBE_FORMATTER.isRef = true) (hstr : own_str nn cc w_coder_a1 n1 ar_r1) (hn4 : nn ≤ 4) (hin : 0 < nn) (A_r1 : Afi Z h0 r1 .byte n1 ar_r1) (S_COMPACT_STRINGS : Sta Z h0 "java/lang/String" "COMPACT_STRINGS" "Z" (.int u_COMPACT_STRINGS)) (S_SIOOBE_FORMATTER : Sta Z h0 "jdk/internal/util/Preconditions" "SIOOBE_FORMATTER" "Ljava/util/function/BiFunction;" u_SIOOBE_FORMATTER) (E_a1 : Exa Z h0 a1 "java/lang/String") (F_value_a1 : Fld Z h0 a1 "java/lang/String" "value" "[B" (.ref r1)) (F_coder_a1 : Fld Z h0 a1 "java/lang/String" "coder" "B" (.int w_coder_a1)) (S__assertionsDisabled : Sta Z h0 "java/lang/StringUTF16" "$assertionsDisabled" "Z" (.int (1 : Int32))) (S_HI_BYTE_SHIFT : Sta Z h0 "java/lang/StringUTF16" "HI_BYTE_SHIFT" "I" (.int (0 : Int32))) (S_LO_BYTE_SHIFT : Sta Z h0 "java/lang/StringUTF16" "LO_BYTE_SHIFT" "I" (.int (8 : Int32))) :
    Met1 l Z (⟨"java/lang/String", "charAt", "(I)C"⟩ : MethodName) jdk_42_method_56_code 2 (some .char) ({ frames := 4, cells := 0, slots := 0, locals := 53 } : Room) #[(.ref a1), (.int (0 : Int32))] h0 (Q13_0 Z a1 nn cc r1 ar_r1 n1 u_COMPACT_STRINGS u_SIOOBE_FORMATTER w_coder_a1 h0 n0) := by
  refine own_met_of (plainFor_of_name pn_12) (ef_13_0 a1) ?_
  intro p e s m below meth c s₁ X hx hby hml hZ hown hnm hret hlk eT
  have hown : s.vm.findClass "java/lang/String" = some m.cls := hown
  have N := Fr.nil n0
  rcases hstr with ⟨hcd, hN, hg⟩ | ⟨hcd, hN, hg⟩
  · subst hcd
    refine own_aloadN X hx hby (.ref a1) d13_0 rfl rfl 1 rfl ?_
    refine own_callV X hx hby hZ (st := []) [] rfl hown (hw _ (List.mem_of_getElem? (i := 66) rfl)) (hw _ (List.mem_of_getElem? (i := 67) rfl)) (hw _ (List.mem_of_getElem? (i := 69) rfl)) (hw _ (List.mem_of_getElem? (i := 68) rfl)) (hw _ (List.mem_of_getElem? (i := 8) rfl)) (hw _ (List.mem_of_getElem? (i := 70) rfl)) E_a1 (by decide) d13_1 (rm14_0 l Z a0 hw a1 u_COMPACT_STRINGS h0 n0 Zs hcs S_COMPACT_STRINGS F_coder_a1) eT pd_3 rfl (by rw [hml]; rfl) (by decide) 0 rfl (by decide) (by decide) (by decide) 4 rfl ?_
    intro T1 L9 v9 X hQ
    obtain ⟨rfl, N9, eT⟩ := hQ
    have N := Fr.app N N9
    show Go p e below _ T1 (mkF m 4 #[.val (.ref a1), .val (.int (0 : Int32))] [(.int (1 : Int32))])
    have c4 : ¬ (1 : Int32) = (0 : Int32) := by decide
    refine own_if_eq X hx hby d13_4 16 7 (by decide) rfl (fun q => absurd q c4) (fun _ => ?_)
    refine own_aloadN X hx hby (.ref a1) d13_7 rfl rfl 8 rfl ?_
    refine own_getF X hx hby hZ hown (host := "") (Or.inl (hw _ (List.mem_of_getElem? (i := 26) rfl))) Via.refl eT F_value_a1 d13_8 11 rfl ?_
    intro T8 X eT
    refine own_iloadN X hx hby (0 : Int32) d13_11 rfl 12 rfl ?_
    refine own_callS X hx hby hZ (st := []) [(.ref r1), (.int (0 : Int32))] rfl hown (hw _ (List.mem_of_getElem? (i := 71) rfl)) (hw _ (List.mem_of_getElem? (i := 72) rfl)) (hw _ (List.mem_of_getElem? (i := 73) rfl)) (hw _ (List.mem_of_getElem? (i := 74) rfl)) (by decide) d13_12 (rm15_0 l Z a0 hw r1 ar_r1 n1 u_SIOOBE_FORMATTER h0 n0 Zs hsf (by rw [hN]; exact own_b0 hn4 hin) (by rw [hN]; exact own_j0 hn4 hin) A_r1 S_SIOOBE_FORMATTER) eT pd_16 rfl (by rw [hml]; rfl) (by decide) 0 rfl (by decide) (by decide) (by decide) 15 rfl ?_
    intro T12 L9 v9 X hQ
    obtain ⟨rfl, N9, eT⟩ := hQ
    have N := Fr.app N N9
    show Go p e below _ T12 (mkF m 15 #[.val (.ref a1), .val (.int (0 : Int32))] [(.int (nar .char (((ar_r1 0) &&& (255 : Int32)).toUInt32.toUInt16.toUInt32.toInt32)))])
    refine own_retN X hx hby hret hlk (t := .char) (z' := (nar .char (nar .char (((ar_r1 0) &&& (255 : Int32)).toUInt32.toUInt16.toUInt32.toInt32)))) (by simp) d13_15 (by decide) (by decide) rfl ?_
    rw [eT]
    exact ⟨congrArg (fun z => some (Value.int z)) ((own_n2 _).trans (hg 0 hin)), N, rfl⟩
  · subst hcd
    refine own_aloadN X hx hby (.ref a1) d13_0 rfl rfl 1 rfl ?_
    refine own_callV X hx hby hZ (st := []) [] rfl hown (hw _ (List.mem_of_getElem? (i := 66) rfl)) (hw _ (List.mem_of_getElem? (i := 67) rfl)) (hw _ (List.mem_of_getElem? (i := 69) rfl)) (hw _ (List.mem_of_getElem? (i := 68) rfl)) (hw _ (List.mem_of_getElem? (i := 8) rfl)) (hw _ (List.mem_of_getElem? (i := 70) rfl)) E_a1 (by decide) d13_1 (rm14_1 l Z a0 hw a1 u_COMPACT_STRINGS h0 n0 Zs hcs S_COMPACT_STRINGS F_coder_a1) eT pd_3 rfl (by rw [hml]; rfl) (by decide) 0 rfl (by decide) (by decide) (by decide) 4 rfl ?_
    intro T1 L9 v9 X hQ
    obtain ⟨rfl, N9, eT⟩ := hQ
    have N := Fr.app N N9
    show Go p e below _ T1 (mkF m 4 #[.val (.ref a1), .val (.int (0 : Int32))] [(.int (0 : Int32))])
    have c4 : (0 : Int32) = (0 : Int32) := by decide
    refine own_if_eq X hx hby d13_4 16 7 (by decide) rfl (fun _ => ?_) (fun q => absurd c4 q)
    refine own_aloadN X hx hby (.ref a1) d13_16 rfl rfl 17 rfl ?_
    refine own_getF X hx hby hZ hown (host := "") (Or.inl (hw _ (List.mem_of_getElem? (i := 26) rfl))) Via.refl eT F_value_a1 d13_17 20 rfl ?_
    intro T17 X eT
    refine own_iloadN X hx hby (0 : Int32) d13_20 rfl 21 rfl ?_
    refine own_callS X hx hby hZ (st := []) [(.ref r1), (.int (0 : Int32))] rfl hown (hw _ (List.mem_of_getElem? (i := 134) rfl)) (hw _ (List.mem_of_getElem? (i := 135) rfl)) (hw _ (List.mem_of_getElem? (i := 40) rfl)) (hw _ (List.mem_of_getElem? (i := 136) rfl)) (by decide) d13_21 (rm31_0 l Z a0 hw r1 ar_r1 n1 u_SIOOBE_FORMATTER h0 n0 Zs hsf (by rw [hN]; exact own_u0 hn4 hin) (by rw [hN]; exact own_b0_0 hn4 hin) (by rw [hN]; exact own_b1_0 hn4 hin) A_r1 S_SIOOBE_FORMATTER S__assertionsDisabled S_HI_BYTE_SHIFT S_LO_BYTE_SHIFT) eT pd_16 rfl (by rw [hml]; rfl) (by decide) 0 rfl (by decide) (by decide) (by decide) 24 rfl ?_
    intro T21 L9 v9 X hQ
    obtain ⟨rfl, N9, eT⟩ := hQ
    have N := Fr.app N N9
    show Go p e below _ T21 (mkF m 24 #[.val (.ref a1), .val (.int (0 : Int32))] [(.int (nar .char (nar .char (((((ar_r1 0) &&& (255 : Int32)) <<< ((0 : Int32) &&& 31)) ||| (((ar_r1 1) &&& (255 : Int32)) <<< ((8 : Int32) &&& 31))).toUInt32.toUInt16.toUInt32.toInt32))))])
    refine own_retN X hx hby hret hlk (t := .char) (z' := (nar .char (nar .char (nar .char (((((ar_r1 0) &&& (255 : Int32)) <<< ((0 : Int32) &&& 31)) ||| (((ar_r1 1) &&& (255 : Int32)) <<< ((8 : Int32) &&& 31))).toUInt32.toUInt16.toUInt32.toInt32))))) (by simp) d13_24 (by decide) (by decide) rfl ?_
    rw [eT]
    exact ⟨congrArg (fun z => some (Value.int z)) ((own_n2 _).trans ((own_n2 _).trans (hg 0 hin))), N, rfl⟩
theorem ef_13_1 (a1 : Addr) (m : MethodId) : entryFrame m #[(.ref a1), (.int (1 : Int32))] 2 = mkF m 0 #[.val (.ref a1), .val (.int (1 : Int32))] [] := by first | (simp [entryFrame, mkF, argsToLocals, Value.category]; done) | rfl
def Q13_1 (Z : State) (a1 : Addr) (nn : Nat) (cc : Nat → Int32) (r1 : Addr) (ar_r1 : Nat → Int32) (n1 : Nat) (u_COMPACT_STRINGS : Int32) (u_SIOOBE_FORMATTER : Value) (w_coder_a1 : Int32) (h0 : Heap) (n0 : Nat) (v : Option Value) (h : Heap) (L : List Loc) : Prop := v = some (.int (cc 1)) ∧ Fr n0 L ∧ h = h0
set_option maxRecDepth 65536 in
set_option maxHeartbeats 40000000 in
theorem rm13_1 (l : Launch) (Z : State) (a0 : Array Value) (hw : ∀ d ∈ tables_1, d.before a0 Z = true) (a1 : Addr) (nn : Nat) (cc : Nat → Int32) (r1 : Addr) (ar_r1 : Nat → Int32) (n1 : Nat) (u_COMPACT_STRINGS : Int32) (u_SIOOBE_FORMATTER : Value) (w_coder_a1 : Int32) (h0 : Heap) (n0 : Nat) (Zs : n0 ≤ h0.size) (hcs : ¬ u_COMPACT_STRINGS = (0 : Int32)) (hsf : u_SIOOBE_FORMATTER.isRef = true) (hstr : own_str nn cc w_coder_a1 n1 ar_r1) (hn4 : nn ≤ 4) (hin : 1 < nn) (A_r1 : Afi Z h0 r1 .byte n1 ar_r1) (S_COMPACT_STRINGS : Sta Z h0 "java/lang/String" "COMPACT_STRINGS" "Z" (.int u_COMPACT_STRINGS)) (S_SIOOBE_FORMATTER : Sta Z h0 "jdk/internal/util/Preconditions" "SIOOBE_FORMATTER" "Ljava/util/function/BiFunction;" u_SIOOBE_FORMATTER) (E_a1 : Exa Z h0 a1 "java/lang/String") (F_value_a1 : Fld Z h0 a1 "java/lang/String" "value" "[B" (.ref r1)) (F_coder_a1 : Fld Z h0 a1 "java/lang/String" "coder" "B" (.int w_coder_a1)) (S__assertionsDisabled : Sta Z h0 "java/lang/StringUTF16" "$assertionsDisabled" "Z" (.int (1 : Int32))) (S_HI_BYTE_SHIFT : Sta Z h0 "java/lang/StringUTF16" "HI_BYTE_SHIFT" "I" (.int (0 : Int32))) (S_LO_BYTE_SHIFT : Sta Z h0 "java/lang/StringUTF16" "LO_BYTE_SHIFT" "I" (.int (8 : Int32))) :
    Met1 l Z (⟨"java/lang/String", "charAt", "(I)C"⟩ : MethodName) jdk_42_method_56_code 2 (some .char) ({ frames := 4, cells := 0, slots := 0, locals := 53 } : Room) #[(.ref a1), (.int (1 : Int32))] h0 (Q13_1 Z a1 nn cc r1 ar_r1 n1 u_COMPACT_STRINGS u_SIOOBE_FORMATTER w_coder_a1 h0 n0) := by
  refine own_met_of (plainFor_of_name pn_12) (ef_13_1 a1) ?_
  intro p e s m below meth c s₁ X hx hby hml hZ hown hnm hret hlk eT
  have hown : s.vm.findClass "java/lang/String" = some m.cls := hown
  have N := Fr.nil n0
  rcases hstr with ⟨hcd, hN, hg⟩ | ⟨hcd, hN, hg⟩
  · subst hcd
    refine own_aloadN X hx hby (.ref a1) d13_0 rfl rfl 1 rfl ?_
    refine own_callV X hx hby hZ (st := []) [] rfl hown (hw _ (List.mem_of_getElem? (i := 66) rfl)) (hw _ (List.mem_of_getElem? (i := 67) rfl)) (hw _ (List.mem_of_getElem? (i := 69) rfl)) (hw _ (List.mem_of_getElem? (i := 68) rfl)) (hw _ (List.mem_of_getElem? (i := 8) rfl)) (hw _ (List.mem_of_getElem? (i := 70) rfl)) E_a1 (by decide) d13_1 (rm14_0 l Z a0 hw a1 u_COMPACT_STRINGS h0 n0 Zs hcs S_COMPACT_STRINGS F_coder_a1) eT pd_3 rfl (by rw [hml]; rfl) (by decide) 0 rfl (by decide) (by decide) (by decide) 4 rfl ?_
    intro T1 L9 v9 X hQ
    obtain ⟨rfl, N9, eT⟩ := hQ
    have N := Fr.app N N9
    show Go p e below _ T1 (mkF m 4 #[.val (.ref a1), .val (.int (1 : Int32))] [(.int (1 : Int32))])
    have c4 : ¬ (1 : Int32) = (0 : Int32) := by decide
    refine own_if_eq X hx hby d13_4 16 7 (by decide) rfl (fun q => absurd q c4) (fun _ => ?_)
    refine own_aloadN X hx hby (.ref a1) d13_7 rfl rfl 8 rfl ?_
    refine own_getF X hx hby hZ hown (host := "") (Or.inl (hw _ (List.mem_of_getElem? (i := 26) rfl))) Via.refl eT F_value_a1 d13_8 11 rfl ?_
    intro T8 X eT
    refine own_iloadN X hx hby (1 : Int32) d13_11 rfl 12 rfl ?_
    refine own_callS X hx hby hZ (st := []) [(.ref r1), (.int (1 : Int32))] rfl hown (hw _ (List.mem_of_getElem? (i := 71) rfl)) (hw _ (List.mem_of_getElem? (i := 72) rfl)) (hw _ (List.mem_of_getElem? (i := 73) rfl)) (hw _ (List.mem_of_getElem? (i := 74) rfl)) (by decide) d13_12 (rm15_1 l Z a0 hw r1 ar_r1 n1 u_SIOOBE_FORMATTER h0 n0 Zs hsf (by rw [hN]; exact own_b1 hn4 hin) (by rw [hN]; exact own_j1 hn4 hin) A_r1 S_SIOOBE_FORMATTER) eT pd_16 rfl (by rw [hml]; rfl) (by decide) 0 rfl (by decide) (by decide) (by decide) 15 rfl ?_
    intro T12 L9 v9 X hQ
    obtain ⟨rfl, N9, eT⟩ := hQ
    have N := Fr.app N N9
    show Go p e below _ T12 (mkF m 15 #[.val (.ref a1), .val (.int (1 : Int32))] [(.int (nar .char (((ar_r1 1) &&& (255 : Int32)).toUInt32.toUInt16.toUInt32.toInt32)))])
    refine own_retN X hx hby hret hlk (t := .char) (z' := (nar .char (nar .char (((ar_r1 1) &&& (255 : Int32)).toUInt32.toUInt16.toUInt32.toInt32)))) (by simp) d13_15 (by decide) (by decide) rfl ?_
    rw [eT]
    exact ⟨congrArg (fun z => some (Value.int z)) ((own_n2 _).trans (hg 1 hin)), N, rfl⟩
  · subst hcd
    refine own_aloadN X hx hby (.ref a1) d13_0 rfl rfl 1 rfl ?_
    refine own_callV X hx hby hZ (st := []) [] rfl hown (hw _ (List.mem_of_getElem? (i := 66) rfl)) (hw _ (List.mem_of_getElem? (i := 67) rfl)) (hw _ (List.mem_of_getElem? (i := 69) rfl)) (hw _ (List.mem_of_getElem? (i := 68) rfl)) (hw _ (List.mem_of_getElem? (i := 8) rfl)) (hw _ (List.mem_of_getElem? (i := 70) rfl)) E_a1 (by decide) d13_1 (rm14_1 l Z a0 hw a1 u_COMPACT_STRINGS h0 n0 Zs hcs S_COMPACT_STRINGS F_coder_a1) eT pd_3 rfl (by rw [hml]; rfl) (by decide) 0 rfl (by decide) (by decide) (by decide) 4 rfl ?_
    intro T1 L9 v9 X hQ
    obtain ⟨rfl, N9, eT⟩ := hQ
    have N := Fr.app N N9
    show Go p e below _ T1 (mkF m 4 #[.val (.ref a1), .val (.int (1 : Int32))] [(.int (0 : Int32))])
    have c4 : (0 : Int32) = (0 : Int32) := by decide
    refine own_if_eq X hx hby d13_4 16 7 (by decide) rfl (fun _ => ?_) (fun q => absurd c4 q)
    refine own_aloadN X hx hby (.ref a1) d13_16 rfl rfl 17 rfl ?_
    refine own_getF X hx hby hZ hown (host := "") (Or.inl (hw _ (List.mem_of_getElem? (i := 26) rfl))) Via.refl eT F_value_a1 d13_17 20 rfl ?_
    intro T17 X eT
    refine own_iloadN X hx hby (1 : Int32) d13_20 rfl 21 rfl ?_
    refine own_callS X hx hby hZ (st := []) [(.ref r1), (.int (1 : Int32))] rfl hown (hw _ (List.mem_of_getElem? (i := 134) rfl)) (hw _ (List.mem_of_getElem? (i := 135) rfl)) (hw _ (List.mem_of_getElem? (i := 40) rfl)) (hw _ (List.mem_of_getElem? (i := 136) rfl)) (by decide) d13_21 (rm31_1 l Z a0 hw r1 ar_r1 n1 u_SIOOBE_FORMATTER h0 n0 Zs hsf (by rw [hN]; exact own_u1 hn4 hin) (by rw [hN]; exact own_b0_1 hn4 hin) (by rw [hN]; exact own_b1_1 hn4 hin) A_r1 S_SIOOBE_FORMATTER S__assertionsDisabled S_HI_BYTE_SHIFT S_LO_BYTE_SHIFT) eT pd_16 rfl (by rw [hml]; rfl) (by decide) 0 rfl (by decide) (by decide) (by decide) 24 rfl ?_
    intro T21 L9 v9 X hQ
    obtain ⟨rfl, N9, eT⟩ := hQ
    have N := Fr.app N N9
    show Go p e below _ T21 (mkF m 24 #[.val (.ref a1), .val (.int (1 : Int32))] [(.int (nar .char (nar .char (((((ar_r1 2) &&& (255 : Int32)) <<< ((0 : Int32) &&& 31)) ||| (((ar_r1 3) &&& (255 : Int32)) <<< ((8 : Int32) &&& 31))).toUInt32.toUInt16.toUInt32.toInt32))))])
    refine own_retN X hx hby hret hlk (t := .char) (z' := (nar .char (nar .char (nar .char (((((ar_r1 2) &&& (255 : Int32)) <<< ((0 : Int32) &&& 31)) ||| (((ar_r1 3) &&& (255 : Int32)) <<< ((8 : Int32) &&& 31))).toUInt32.toUInt16.toUInt32.toInt32))))) (by simp) d13_24 (by decide) (by decide) rfl ?_
    rw [eT]
    exact ⟨congrArg (fun z => some (Value.int z)) ((own_n2 _).trans ((own_n2 _).trans (hg 1 hin))), N, rfl⟩
theorem ef_13_2 (a1 : Addr) (m : MethodId) : entryFrame m #[(.ref a1), (.int (2 : Int32))] 2 = mkF m 0 #[.val (.ref a1), .val (.int (2 : Int32))] [] := by first | (simp [entryFrame, mkF, argsToLocals, Value.category]; done) | rfl
def Q13_2 (Z : State) (a1 : Addr) (nn : Nat) (cc : Nat → Int32) (r1 : Addr) (ar_r1 : Nat → Int32) (n1 : Nat) (u_COMPACT_STRINGS : Int32) (u_SIOOBE_FORMATTER : Value) (w_coder_a1 : Int32) (h0 : Heap) (n0 : Nat) (v : Option Value) (h : Heap) (L : List Loc) : Prop := v = some (.int (cc 2)) ∧ Fr n0 L ∧ h = h0
set_option maxRecDepth 65536 in
set_option maxHeartbeats 40000000 in
theorem rm13_2 (l : Launch) (Z : State) (a0 : Array Value) (hw : ∀ d ∈ tables_1, d.before a0 Z = true) (a1 : Addr) (nn : Nat) (cc : Nat → Int32) (r1 : Addr) (ar_r1 : Nat → Int32) (n1 : Nat) (u_COMPACT_STRINGS : Int32) (u_SIOOBE_FORMATTER : Value) (w_coder_a1 : Int32) (h0 : Heap) (n0 : Nat) (Zs : n0 ≤ h0.size) (hcs : ¬ u_COMPACT_STRINGS = (0 : Int32)) (hsf : u_SIOOBE_FORMATTER.isRef = true) (hstr : own_str nn cc w_coder_a1 n1 ar_r1) (hn4 : nn ≤ 4) (hin : 2 < nn) (A_r1 : Afi Z h0 r1 .byte n1 ar_r1) (S_COMPACT_STRINGS : Sta Z h0 "java/lang/String" "COMPACT_STRINGS" "Z" (.int u_COMPACT_STRINGS)) (S_SIOOBE_FORMATTER : Sta Z h0 "jdk/internal/util/Preconditions" "SIOOBE_FORMATTER" "Ljava/util/function/BiFunction;" u_SIOOBE_FORMATTER) (E_a1 : Exa Z h0 a1 "java/lang/String") (F_value_a1 : Fld Z h0 a1 "java/lang/String" "value" "[B" (.ref r1)) (F_coder_a1 : Fld Z h0 a1 "java/lang/String" "coder" "B" (.int w_coder_a1)) (S__assertionsDisabled : Sta Z h0 "java/lang/StringUTF16" "$assertionsDisabled" "Z" (.int (1 : Int32))) (S_HI_BYTE_SHIFT : Sta Z h0 "java/lang/StringUTF16" "HI_BYTE_SHIFT" "I" (.int (0 : Int32))) (S_LO_BYTE_SHIFT : Sta Z h0 "java/lang/StringUTF16" "LO_BYTE_SHIFT" "I" (.int (8 : Int32))) :
    Met1 l Z (⟨"java/lang/String", "charAt", "(I)C"⟩ : MethodName) jdk_42_method_56_code 2 (some .char) ({ frames := 4, cells := 0, slots := 0, locals := 53 } : Room) #[(.ref a1), (.int (2 : Int32))] h0 (Q13_2 Z a1 nn cc r1 ar_r1 n1 u_COMPACT_STRINGS u_SIOOBE_FORMATTER w_coder_a1 h0 n0) := by
  refine own_met_of (plainFor_of_name pn_12) (ef_13_2 a1) ?_
  intro p e s m below meth c s₁ X hx hby hml hZ hown hnm hret hlk eT
  have hown : s.vm.findClass "java/lang/String" = some m.cls := hown
  have N := Fr.nil n0
  rcases hstr with ⟨hcd, hN, hg⟩ | ⟨hcd, hN, hg⟩
  · subst hcd
    refine own_aloadN X hx hby (.ref a1) d13_0 rfl rfl 1 rfl ?_
    refine own_callV X hx hby hZ (st := []) [] rfl hown (hw _ (List.mem_of_getElem? (i := 66) rfl)) (hw _ (List.mem_of_getElem? (i := 67) rfl)) (hw _ (List.mem_of_getElem? (i := 69) rfl)) (hw _ (List.mem_of_getElem? (i := 68) rfl)) (hw _ (List.mem_of_getElem? (i := 8) rfl)) (hw _ (List.mem_of_getElem? (i := 70) rfl)) E_a1 (by decide) d13_1 (rm14_0 l Z a0 hw a1 u_COMPACT_STRINGS h0 n0 Zs hcs S_COMPACT_STRINGS F_coder_a1) eT pd_3 rfl (by rw [hml]; rfl) (by decide) 0 rfl (by decide) (by decide) (by decide) 4 rfl ?_
    intro T1 L9 v9 X hQ
    obtain ⟨rfl, N9, eT⟩ := hQ
    have N := Fr.app N N9
    show Go p e below _ T1 (mkF m 4 #[.val (.ref a1), .val (.int (2 : Int32))] [(.int (1 : Int32))])
    have c4 : ¬ (1 : Int32) = (0 : Int32) := by decide
    refine own_if_eq X hx hby d13_4 16 7 (by decide) rfl (fun q => absurd q c4) (fun _ => ?_)
    refine own_aloadN X hx hby (.ref a1) d13_7 rfl rfl 8 rfl ?_
    refine own_getF X hx hby hZ hown (host := "") (Or.inl (hw _ (List.mem_of_getElem? (i := 26) rfl))) Via.refl eT F_value_a1 d13_8 11 rfl ?_
    intro T8 X eT
    refine own_iloadN X hx hby (2 : Int32) d13_11 rfl 12 rfl ?_
    refine own_callS X hx hby hZ (st := []) [(.ref r1), (.int (2 : Int32))] rfl hown (hw _ (List.mem_of_getElem? (i := 71) rfl)) (hw _ (List.mem_of_getElem? (i := 72) rfl)) (hw _ (List.mem_of_getElem? (i := 73) rfl)) (hw _ (List.mem_of_getElem? (i := 74) rfl)) (by decide) d13_12 (rm15_2 l Z a0 hw r1 ar_r1 n1 u_SIOOBE_FORMATTER h0 n0 Zs hsf (by rw [hN]; exact own_b2 hn4 hin) (by rw [hN]; exact own_j2 hn4 hin) A_r1 S_SIOOBE_FORMATTER) eT pd_16 rfl (by rw [hml]; rfl) (by decide) 0 rfl (by decide) (by decide) (by decide) 15 rfl ?_
    intro T12 L9 v9 X hQ
    obtain ⟨rfl, N9, eT⟩ := hQ
    have N := Fr.app N N9
    show Go p e below _ T12 (mkF m 15 #[.val (.ref a1), .val (.int (2 : Int32))] [(.int (nar .char (((ar_r1 2) &&& (255 : Int32)).toUInt32.toUInt16.toUInt32.toInt32)))])
    refine own_retN X hx hby hret hlk (t := .char) (z' := (nar .char (nar .char (((ar_r1 2) &&& (255 : Int32)).toUInt32.toUInt16.toUInt32.toInt32)))) (by simp) d13_15 (by decide) (by decide) rfl ?_
    rw [eT]
    exact ⟨congrArg (fun z => some (Value.int z)) ((own_n2 _).trans (hg 2 hin)), N, rfl⟩
  · subst hcd
    refine own_aloadN X hx hby (.ref a1) d13_0 rfl rfl 1 rfl ?_
    refine own_callV X hx hby hZ (st := []) [] rfl hown (hw _ (List.mem_of_getElem? (i := 66) rfl)) (hw _ (List.mem_of_getElem? (i := 67) rfl)) (hw _ (List.mem_of_getElem? (i := 69) rfl)) (hw _ (List.mem_of_getElem? (i := 68) rfl)) (hw _ (List.mem_of_getElem? (i := 8) rfl)) (hw _ (List.mem_of_getElem? (i := 70) rfl)) E_a1 (by decide) d13_1 (rm14_1 l Z a0 hw a1 u_COMPACT_STRINGS h0 n0 Zs hcs S_COMPACT_STRINGS F_coder_a1) eT pd_3 rfl (by rw [hml]; rfl) (by decide) 0 rfl (by decide) (by decide) (by decide) 4 rfl ?_
    intro T1 L9 v9 X hQ
    obtain ⟨rfl, N9, eT⟩ := hQ
    have N := Fr.app N N9
    show Go p e below _ T1 (mkF m 4 #[.val (.ref a1), .val (.int (2 : Int32))] [(.int (0 : Int32))])
    have c4 : (0 : Int32) = (0 : Int32) := by decide
    refine own_if_eq X hx hby d13_4 16 7 (by decide) rfl (fun _ => ?_) (fun q => absurd c4 q)
    refine own_aloadN X hx hby (.ref a1) d13_16 rfl rfl 17 rfl ?_
    refine own_getF X hx hby hZ hown (host := "") (Or.inl (hw _ (List.mem_of_getElem? (i := 26) rfl))) Via.refl eT F_value_a1 d13_17 20 rfl ?_
    intro T17 X eT
    refine own_iloadN X hx hby (2 : Int32) d13_20 rfl 21 rfl ?_
    refine own_callS X hx hby hZ (st := []) [(.ref r1), (.int (2 : Int32))] rfl hown (hw _ (List.mem_of_getElem? (i := 134) rfl)) (hw _ (List.mem_of_getElem? (i := 135) rfl)) (hw _ (List.mem_of_getElem? (i := 40) rfl)) (hw _ (List.mem_of_getElem? (i := 136) rfl)) (by decide) d13_21 (rm31_2 l Z a0 hw r1 ar_r1 n1 u_SIOOBE_FORMATTER h0 n0 Zs hsf (by rw [hN]; exact own_u2 hn4 hin) (by rw [hN]; exact own_b0_2 hn4 hin) (by rw [hN]; exact own_b1_2 hn4 hin) A_r1 S_SIOOBE_FORMATTER S__assertionsDisabled S_HI_BYTE_SHIFT S_LO_BYTE_SHIFT) eT pd_16 rfl (by rw [hml]; rfl) (by decide) 0 rfl (by decide) (by decide) (by decide) 24 rfl ?_
    intro T21 L9 v9 X hQ
    obtain ⟨rfl, N9, eT⟩ := hQ
    have N := Fr.app N N9
    show Go p e below _ T21 (mkF m 24 #[.val (.ref a1), .val (.int (2 : Int32))] [(.int (nar .char (nar .char (((((ar_r1 4) &&& (255 : Int32)) <<< ((0 : Int32) &&& 31)) ||| (((ar_r1 5) &&& (255 : Int32)) <<< ((8 : Int32) &&& 31))).toUInt32.toUInt16.toUInt32.toInt32))))])
    refine own_retN X hx hby hret hlk (t := .char) (z' := (nar .char (nar .char (nar .char (((((ar_r1 4) &&& (255 : Int32)) <<< ((0 : Int32) &&& 31)) ||| (((ar_r1 5) &&& (255 : Int32)) <<< ((8 : Int32) &&& 31))).toUInt32.toUInt16.toUInt32.toInt32))))) (by simp) d13_24 (by decide) (by decide) rfl ?_
    rw [eT]
    exact ⟨congrArg (fun z => some (Value.int z)) ((own_n2 _).trans ((own_n2 _).trans (hg 2 hin))), N, rfl⟩
theorem ef_13_3 (a1 : Addr) (m : MethodId) : entryFrame m #[(.ref a1), (.int (3 : Int32))] 2 = mkF m 0 #[.val (.ref a1), .val (.int (3 : Int32))] [] := by first | (simp [entryFrame, mkF, argsToLocals, Value.category]; done) | rfl
def Q13_3 (Z : State) (a1 : Addr) (nn : Nat) (cc : Nat → Int32) (r1 : Addr) (ar_r1 : Nat → Int32) (n1 : Nat) (u_COMPACT_STRINGS : Int32) (u_SIOOBE_FORMATTER : Value) (w_coder_a1 : Int32) (h0 : Heap) (n0 : Nat) (v : Option Value) (h : Heap) (L : List Loc) : Prop := v = some (.int (cc 3)) ∧ Fr n0 L ∧ h = h0
set_option maxRecDepth 65536 in
set_option maxHeartbeats 40000000 in
theorem rm13_3 (l : Launch) (Z : State) (a0 : Array Value) (hw : ∀ d ∈ tables_1, d.before a0 Z = true) (a1 : Addr) (nn : Nat) (cc : Nat → Int32) (r1 : Addr) (ar_r1 : Nat → Int32) (n1 : Nat) (u_COMPACT_STRINGS : Int32) (u_SIOOBE_FORMATTER : Value) (w_coder_a1 : Int32) (h0 : Heap) (n0 : Nat) (Zs : n0 ≤ h0.size) (hcs : ¬ u_COMPACT_STRINGS = (0 : Int32)) (hsf : u_SIOOBE_FORMATTER.isRef = true) (hstr : own_str nn cc w_coder_a1 n1 ar_r1) (hn4 : nn ≤ 4) (hin : 3 < nn) (A_r1 : Afi Z h0 r1 .byte n1 ar_r1) (S_COMPACT_STRINGS : Sta Z h0 "java/lang/String" "COMPACT_STRINGS" "Z" (.int u_COMPACT_STRINGS)) (S_SIOOBE_FORMATTER : Sta Z h0 "jdk/internal/util/Preconditions" "SIOOBE_FORMATTER" "Ljava/util/function/BiFunction;" u_SIOOBE_FORMATTER) (E_a1 : Exa Z h0 a1 "java/lang/String") (F_value_a1 : Fld Z h0 a1 "java/lang/String" "value" "[B" (.ref r1)) (F_coder_a1 : Fld Z h0 a1 "java/lang/String" "coder" "B" (.int w_coder_a1)) (S__assertionsDisabled : Sta Z h0 "java/lang/StringUTF16" "$assertionsDisabled" "Z" (.int (1 : Int32))) (S_HI_BYTE_SHIFT : Sta Z h0 "java/lang/StringUTF16" "HI_BYTE_SHIFT" "I" (.int (0 : Int32))) (S_LO_BYTE_SHIFT : Sta Z h0 "java/lang/StringUTF16" "LO_BYTE_SHIFT" "I" (.int (8 : Int32))) :
    Met1 l Z (⟨"java/lang/String", "charAt", "(I)C"⟩ : MethodName) jdk_42_method_56_code 2 (some .char) ({ frames := 4, cells := 0, slots := 0, locals := 53 } : Room) #[(.ref a1), (.int (3 : Int32))] h0 (Q13_3 Z a1 nn cc r1 ar_r1 n1 u_COMPACT_STRINGS u_SIOOBE_FORMATTER w_coder_a1 h0 n0) := by
  refine own_met_of (plainFor_of_name pn_12) (ef_13_3 a1) ?_
  intro p e s m below meth c s₁ X hx hby hml hZ hown hnm hret hlk eT
  have hown : s.vm.findClass "java/lang/String" = some m.cls := hown
  have N := Fr.nil n0
  rcases hstr with ⟨hcd, hN, hg⟩ | ⟨hcd, hN, hg⟩
  · subst hcd
    refine own_aloadN X hx hby (.ref a1) d13_0 rfl rfl 1 rfl ?_
    refine own_callV X hx hby hZ (st := []) [] rfl hown (hw _ (List.mem_of_getElem? (i := 66) rfl)) (hw _ (List.mem_of_getElem? (i := 67) rfl)) (hw _ (List.mem_of_getElem? (i := 69) rfl)) (hw _ (List.mem_of_getElem? (i := 68) rfl)) (hw _ (List.mem_of_getElem? (i := 8) rfl)) (hw _ (List.mem_of_getElem? (i := 70) rfl)) E_a1 (by decide) d13_1 (rm14_0 l Z a0 hw a1 u_COMPACT_STRINGS h0 n0 Zs hcs S_COMPACT_STRINGS F_coder_a1) eT pd_3 rfl (by rw [hml]; rfl) (by decide) 0 rfl (by decide) (by decide) (by decide) 4 rfl ?_
    intro T1 L9 v9 X hQ
    obtain ⟨rfl, N9, eT⟩ := hQ
    have N := Fr.app N N9
    show Go p e below _ T1 (mkF m 4 #[.val (.ref a1), .val (.int (3 : Int32))] [(.int (1 : Int32))])
    have c4 : ¬ (1 : Int32) = (0 : Int32) := by decide
    refine own_if_eq X hx hby d13_4 16 7 (by decide) rfl (fun q => absurd q c4) (fun _ => ?_)
    refine own_aloadN X hx hby (.ref a1) d13_7 rfl rfl 8 rfl ?_
    refine own_getF X hx hby hZ hown (host := "") (Or.inl (hw _ (List.mem_of_getElem? (i := 26) rfl))) Via.refl eT F_value_a1 d13_8 11 rfl ?_
    intro T8 X eT
    refine own_iloadN X hx hby (3 : Int32) d13_11 rfl 12 rfl ?_
    refine own_callS X hx hby hZ (st := []) [(.ref r1), (.int (3 : Int32))] rfl hown (hw _ (List.mem_of_getElem? (i := 71) rfl)) (hw _ (List.mem_of_getElem? (i := 72) rfl)) (hw _ (List.mem_of_getElem? (i := 73) rfl)) (hw _ (List.mem_of_getElem? (i := 74) rfl)) (by decide) d13_12 (rm15_3 l Z a0 hw r1 ar_r1 n1 u_SIOOBE_FORMATTER h0 n0 Zs hsf (by rw [hN]; exact own_b3 hn4 hin) (by rw [hN]; exact own_j3 hn4 hin) A_r1 S_SIOOBE_FORMATTER) eT pd_16 rfl (by rw [hml]; rfl) (by decide) 0 rfl (by decide) (by decide) (by decide) 15 rfl ?_
    intro T12 L9 v9 X hQ
    obtain ⟨rfl, N9, eT⟩ := hQ
    have N := Fr.app N N9
    show Go p e below _ T12 (mkF m 15 #[.val (.ref a1), .val (.int (3 : Int32))] [(.int (nar .char (((ar_r1 3) &&& (255 : Int32)).toUInt32.toUInt16.toUInt32.toInt32)))])
    refine own_retN X hx hby hret hlk (t := .char) (z' := (nar .char (nar .char (((ar_r1 3) &&& (255 : Int32)).toUInt32.toUInt16.toUInt32.toInt32)))) (by simp) d13_15 (by decide) (by decide) rfl ?_
    rw [eT]
    exact ⟨congrArg (fun z => some (Value.int z)) ((own_n2 _).trans (hg 3 hin)), N, rfl⟩
  · subst hcd
    refine own_aloadN X hx hby (.ref a1) d13_0 rfl rfl 1 rfl ?_
    refine own_callV X hx hby hZ (st := []) [] rfl hown (hw _ (List.mem_of_getElem? (i := 66) rfl)) (hw _ (List.mem_of_getElem? (i := 67) rfl)) (hw _ (List.mem_of_getElem? (i := 69) rfl)) (hw _ (List.mem_of_getElem? (i := 68) rfl)) (hw _ (List.mem_of_getElem? (i := 8) rfl)) (hw _ (List.mem_of_getElem? (i := 70) rfl)) E_a1 (by decide) d13_1 (rm14_1 l Z a0 hw a1 u_COMPACT_STRINGS h0 n0 Zs hcs S_COMPACT_STRINGS F_coder_a1) eT pd_3 rfl (by rw [hml]; rfl) (by decide) 0 rfl (by decide) (by decide) (by decide) 4 rfl ?_
    intro T1 L9 v9 X hQ
    obtain ⟨rfl, N9, eT⟩ := hQ
    have N := Fr.app N N9
    show Go p e below _ T1 (mkF m 4 #[.val (.ref a1), .val (.int (3 : Int32))] [(.int (0 : Int32))])
    have c4 : (0 : Int32) = (0 : Int32) := by decide
    refine own_if_eq X hx hby d13_4 16 7 (by decide) rfl (fun _ => ?_) (fun q => absurd c4 q)
    refine own_aloadN X hx hby (.ref a1) d13_16 rfl rfl 17 rfl ?_
    refine own_getF X hx hby hZ hown (host := "") (Or.inl (hw _ (List.mem_of_getElem? (i := 26) rfl))) Via.refl eT F_value_a1 d13_17 20 rfl ?_
    intro T17 X eT
    refine own_iloadN X hx hby (3 : Int32) d13_20 rfl 21 rfl ?_
    refine own_callS X hx hby hZ (st := []) [(.ref r1), (.int (3 : Int32))] rfl hown (hw _ (List.mem_of_getElem? (i := 134) rfl)) (hw _ (List.mem_of_getElem? (i := 135) rfl)) (hw _ (List.mem_of_getElem? (i := 40) rfl)) (hw _ (List.mem_of_getElem? (i := 136) rfl)) (by decide) d13_21 (rm31_3 l Z a0 hw r1 ar_r1 n1 u_SIOOBE_FORMATTER h0 n0 Zs hsf (by rw [hN]; exact own_u3 hn4 hin) (by rw [hN]; exact own_b0_3 hn4 hin) (by rw [hN]; exact own_b1_3 hn4 hin) A_r1 S_SIOOBE_FORMATTER S__assertionsDisabled S_HI_BYTE_SHIFT S_LO_BYTE_SHIFT) eT pd_16 rfl (by rw [hml]; rfl) (by decide) 0 rfl (by decide) (by decide) (by decide) 24 rfl ?_
    intro T21 L9 v9 X hQ
    obtain ⟨rfl, N9, eT⟩ := hQ
    have N := Fr.app N N9
    show Go p e below _ T21 (mkF m 24 #[.val (.ref a1), .val (.int (3 : Int32))] [(.int (nar .char (nar .char (((((ar_r1 6) &&& (255 : Int32)) <<< ((0 : Int32) &&& 31)) ||| (((ar_r1 7) &&& (255 : Int32)) <<< ((8 : Int32) &&& 31))).toUInt32.toUInt16.toUInt32.toInt32))))])
    refine own_retN X hx hby hret hlk (t := .char) (z' := (nar .char (nar .char (nar .char (((((ar_r1 6) &&& (255 : Int32)) <<< ((0 : Int32) &&& 31)) ||| (((ar_r1 7) &&& (255 : Int32)) <<< ((8 : Int32) &&& 31))).toUInt32.toUInt16.toUInt32.toInt32))))) (by simp) d13_24 (by decide) (by decide) rfl ?_
    rw [eT]
    exact ⟨congrArg (fun z => some (Value.int z)) ((own_n2 _).trans ((own_n2 _).trans (hg 3 hin))), N, rfl⟩
theorem ef_20 (a1 : Addr) (p2 : Int32) (m : MethodId) : entryFrame m #[(.ref a1), (.int p2), (.int (0 : Int32))] 3 = mkF m 0 #[.val (.ref a1), .val (.int p2), .val (.int (0 : Int32))] [] := by first | (simp [entryFrame, mkF, argsToLocals, Value.category]; done) | rfl
def Q20 (Z : State) (a1 : Addr) (p2 : Int32) (r1 : Addr) (ar_r1 : Nat → Int32) (u_COMPACT_STRINGS : Int32) (h0 : Heap) (n0 : Nat) (v : Option Value) (h : Heap) (L : List Loc) : Prop := v = some (.int (f21 p2 ar_r1)) ∧ Fr n0 L ∧ h = h0
set_option maxRecDepth 65536 in
set_option maxHeartbeats 40000000 in
theorem rm20 (l : Launch) (Z : State) (a0 : Array Value) (hw : ∀ d ∈ tables_1, d.before a0 Z = true) (a1 : Addr) (p2 : Int32) (r1 : Addr) (ar_r1 : Nat → Int32) (u_COMPACT_STRINGS : Int32) (h0 : Heap) (n0 : Nat) (Zs : n0 ≤ h0.size) (hcs : ¬ u_COMPACT_STRINGS = (0 : Int32)) (A_r1 : Afi Z h0 r1 .byte 15 ar_r1) (F_coder_a1 : Fld Z h0 a1 "java/lang/String" "coder" "B" (.int (0 : Int32))) (S_COMPACT_STRINGS : Sta Z h0 "java/lang/String" "COMPACT_STRINGS" "Z" (.int u_COMPACT_STRINGS)) (E_a1 : Exa Z h0 a1 "java/lang/String") (F_value_a1 : Fld Z h0 a1 "java/lang/String" "value" "[B" (.ref r1)) :
    Met1 l Z (⟨"java/lang/String", "indexOf", "(II)I"⟩ : MethodName) jdk_42_method_80_code 3 (some .int) ({ frames := 2, cells := 0, slots := 0, locals := 32 } : Room) #[(.ref a1), (.int p2), (.int (0 : Int32))] h0 (Q20 Z a1 p2 r1 ar_r1 u_COMPACT_STRINGS h0 n0) := by
  refine own_met_of (plainFor_of_name pn_12) (ef_20 a1 p2) ?_
  intro p e s m below meth c s₁ X hx hby hml hZ hown hnm hret hlk eT
  have hown : s.vm.findClass "java/lang/String" = some m.cls := hown
  have N := Fr.nil n0
  refine own_aloadN X hx hby (.ref a1) d20_0 rfl rfl 1 rfl ?_
  refine own_callV X hx hby hZ (st := []) [] rfl hown (hw _ (List.mem_of_getElem? (i := 66) rfl)) (hw _ (List.mem_of_getElem? (i := 67) rfl)) (hw _ (List.mem_of_getElem? (i := 69) rfl)) (hw _ (List.mem_of_getElem? (i := 68) rfl)) (hw _ (List.mem_of_getElem? (i := 8) rfl)) (hw _ (List.mem_of_getElem? (i := 70) rfl)) E_a1 (by decide) d20_1 (rm14_0 l Z a0 hw a1 u_COMPACT_STRINGS h0 n0 Zs hcs S_COMPACT_STRINGS F_coder_a1) eT pd_3 rfl (by rw [hml]; rfl) (by decide) 0 rfl (by decide) (by decide) (by decide) 4 rfl ?_
  intro T1 L9 v9 X hQ
  obtain ⟨rfl, N9, eT⟩ := hQ
  have N := Fr.app N N9
  show Go p e below _ T1 (mkF m 4 #[.val (.ref a1), .val (.int p2), .val (.int (0 : Int32))] [(.int (1 : Int32))])
  have c4 : ¬ (1 : Int32) = (0 : Int32) := by decide
  refine own_if_eq X hx hby d20_4 23 7 (by decide) rfl (fun q => absurd q c4) (fun _ => ?_)
  refine own_aloadN X hx hby (.ref a1) d20_7 rfl rfl 8 rfl ?_
  refine own_getF X hx hby hZ hown (host := "") (Or.inl (hw _ (List.mem_of_getElem? (i := 26) rfl))) Via.refl eT F_value_a1 d20_8 11 rfl ?_
  intro T8 X eT
  refine own_iloadN X hx hby p2 d20_11 rfl 12 rfl ?_
  refine own_iloadN X hx hby (0 : Int32) d20_12 rfl 13 rfl ?_
  refine own_aloadN X hx hby (.ref a1) d20_13 rfl rfl 14 rfl ?_
  refine own_callV X hx hby hZ (st := [(.int (0 : Int32)), (.int p2), (.ref r1)]) [] rfl hown (hw _ (List.mem_of_getElem? (i := 97) rfl)) (hw _ (List.mem_of_getElem? (i := 52) rfl)) (hw _ (List.mem_of_getElem? (i := 54) rfl)) (hw _ (List.mem_of_getElem? (i := 53) rfl)) (hw _ (List.mem_of_getElem? (i := 8) rfl)) (hw _ (List.mem_of_getElem? (i := 55) rfl)) E_a1 (by decide) d20_14 (rm11_15 l Z a0 hw a1 r1 ar_r1 u_COMPACT_STRINGS h0 n0 Zs hcs A_r1 F_value_a1 F_coder_a1 S_COMPACT_STRINGS E_a1) eT pd_1 rfl (by rw [hml]; rfl) (by decide) 3 rfl (by decide) (by decide) (by decide) 17 rfl ?_
  intro T14 L9 v9 X hQ
  obtain ⟨rfl, N9, eT⟩ := hQ
  have N := Fr.app N N9
  show Go p e below _ T14 (mkF m 17 #[.val (.ref a1), .val (.int p2), .val (.int (0 : Int32))] [(.int (15 : Int32)), (.int (0 : Int32)), (.int p2), (.ref r1)])
  refine own_callS X hx hby hZ (st := []) [(.ref r1), (.int p2), (.int (0 : Int32)), (.int (15 : Int32))] rfl hown (hw _ (List.mem_of_getElem? (i := 98) rfl)) (hw _ (List.mem_of_getElem? (i := 99) rfl)) (hw _ (List.mem_of_getElem? (i := 73) rfl)) (hw _ (List.mem_of_getElem? (i := 100) rfl)) (by decide) d20_17 (rm21 l Z a0 hw r1 p2 ar_r1 h0 n0 Zs A_r1) eT pd_18 rfl (by rw [hml]; rfl) (by decide) 0 rfl (by decide) (by decide) (by decide) 20 rfl ?_
  intro T17 L9 v9 X hQ
  obtain ⟨rfl, N9, eT⟩ := hQ
  have N := Fr.app N N9
  show Go p e below _ T17 (mkF m 20 #[.val (.ref a1), .val (.int p2), .val (.int (0 : Int32))] [(.int (f21 p2 ar_r1))])
  refine own_goto X hx hby d20_20 36 (by decide) ?_
  refine own_retI X hx hby hret hlk d20_36 (by decide) (by decide) ?_
  rw [eT]
  exact ⟨rfl, N, rfl⟩
theorem ef_19 (a1 : Addr) (p2 : Int32) (m : MethodId) : entryFrame m #[(.ref a1), (.int p2)] 2 = mkF m 0 #[.val (.ref a1), .val (.int p2)] [] := by first | (simp [entryFrame, mkF, argsToLocals, Value.category]; done) | rfl
def Q19 (Z : State) (a1 : Addr) (p2 : Int32) (r1 : Addr) (ar_r1 : Nat → Int32) (u_COMPACT_STRINGS : Int32) (h0 : Heap) (n0 : Nat) (v : Option Value) (h : Heap) (L : List Loc) : Prop := v = some (.int (f21 p2 ar_r1)) ∧ Fr n0 L ∧ h = h0
set_option maxRecDepth 65536 in
set_option maxHeartbeats 40000000 in
theorem rm19 (l : Launch) (Z : State) (a0 : Array Value) (hw : ∀ d ∈ tables_1, d.before a0 Z = true) (a1 : Addr) (p2 : Int32) (r1 : Addr) (ar_r1 : Nat → Int32) (u_COMPACT_STRINGS : Int32) (h0 : Heap) (n0 : Nat) (Zs : n0 ≤ h0.size) (hcs : ¬ u_COMPACT_STRINGS = (0 : Int32)) (A_r1 : Afi Z h0 r1 .byte 15 ar_r1) (F_coder_a1 : Fld Z h0 a1 "java/lang/String" "coder" "B" (.int (0 : Int32))) (F_value_a1 : Fld Z h0 a1 "java/lang/String" "value" "[B" (.ref r1)) (S_COMPACT_STRINGS : Sta Z h0 "java/lang/String" "COMPACT_STRINGS" "Z" (.int u_COMPACT_STRINGS)) (E_a1 : Exa Z h0 a1 "java/lang/String") :
    Met1 l Z (⟨"java/lang/String", "indexOf", "(I)I"⟩ : MethodName) jdk_42_method_79_code 2 (some .int) ({ frames := 3, cells := 0, slots := 0, locals := 46 } : Room) #[(.ref a1), (.int p2)] h0 (Q19 Z a1 p2 r1 ar_r1 u_COMPACT_STRINGS h0 n0) := by
  refine own_met_of (plainFor_of_name pn_12) (ef_19 a1 p2) ?_
  intro p e s m below meth c s₁ X hx hby hml hZ hown hnm hret hlk eT
  have hown : s.vm.findClass "java/lang/String" = some m.cls := hown
  have N := Fr.nil n0
  refine own_aloadN X hx hby (.ref a1) d19_0 rfl rfl 1 rfl ?_
  refine own_iloadN X hx hby p2 d19_1 rfl 2 rfl ?_
  refine own_iconst X hx hby (0 : Int32) d19_2 rfl 3 rfl ?_
  refine own_callV X hx hby hZ (st := []) [(.int p2), (.int (0 : Int32))] rfl hown (hw _ (List.mem_of_getElem? (i := 92) rfl)) (hw _ (List.mem_of_getElem? (i := 93) rfl)) (hw _ (List.mem_of_getElem? (i := 95) rfl)) (hw _ (List.mem_of_getElem? (i := 94) rfl)) (hw _ (List.mem_of_getElem? (i := 8) rfl)) (hw _ (List.mem_of_getElem? (i := 96) rfl)) E_a1 (by decide) d19_3 (rm20 l Z a0 hw a1 p2 r1 ar_r1 u_COMPACT_STRINGS h0 n0 Zs hcs A_r1 F_coder_a1 S_COMPACT_STRINGS E_a1 F_value_a1) eT pd_9 rfl (by rw [hml]; rfl) (by decide) 0 rfl (by decide) (by decide) (by decide) 6 rfl ?_
  intro T3 L9 v9 X hQ
  obtain ⟨rfl, N9, eT⟩ := hQ
  have N := Fr.app N N9
  show Go p e below _ T3 (mkF m 6 #[.val (.ref a1), .val (.int p2)] [(.int (f21 p2 ar_r1))])
  refine own_retI X hx hby hret hlk d19_6 (by decide) (by decide) ?_
  rw [eT]
  exact ⟨rfl, N, rfl⟩
def own_idx (p2 : Int32) : Int32 := (f21 p2 own_litF)
def own_tk (x : Int32) : Int32 := if f18 x = (0 : Int32) then (if own_idx x < (0 : Int32) then (0 : Int32) else (1 : Int32)) else (1 : Int32)
def own_res (c : Nat → Int32) : Nat → Nat → Int32
  | _, 0 => 1
  | i, k + 1 => if own_tk (c i) = (1 : Int32) then own_res c (i + 1) k else 0
theorem own_resS (c : Nat → Int32) (i k : Nat) : own_res c i (k + 1) = if own_tk (c i) = (1 : Int32) then own_res c (i + 1) k else 0 := rfl
theorem own_res0 (c : Nat → Int32) (i : Nat) : own_res c i 0 = 1 := rfl
theorem own_rE (c : Nat → Int32) {i nn : Nat} (h : nn ≤ i) : own_res c i (nn - i) = 1 := by
  have q : nn - i = 0 := by omega
  rw [q, own_res0]
theorem own_rY (c : Nat → Int32) {i nn : Nat} (h : i < nn) (t : own_tk (c i) = 1) : own_res c i (nn - i) = own_res c (i + 1) (nn - (i + 1)) := by
  have q : nn - i = (nn - (i + 1)) + 1 := by omega
  rw [q, own_resS, if_pos t]
theorem own_rN (c : Nat → Int32) {i nn : Nat} (h : i < nn) (t : own_tk (c i) = 0) : own_res c i (nn - i) = 0 := by
  have q : nn - i = (nn - (i + 1)) + 1 := by omega
  rw [q, own_resS, t, if_neg (by decide)]
theorem own_tkA {x : Int32} (h : ¬ f18 x = (0 : Int32)) : own_tk x = 1 := by
  unfold own_tk
  rw [if_neg h]
theorem own_tkB {x : Int32} (h : f18 x = (0 : Int32)) (h2 : ¬ own_idx x < (0 : Int32)) : own_tk x = 1 := by
  unfold own_tk
  rw [if_pos h, if_neg h2]
theorem own_tkC {x : Int32} (h : f18 x = (0 : Int32)) (h2 : own_idx x < (0 : Int32)) : own_tk x = 0 := by
  unfold own_tk
  rw [if_pos h, if_pos h2]
theorem ef_28_1  (m : MethodId) : entryFrame m #[(.int (1 : Int32))] 1 = mkF m 0 #[.val (.int (1 : Int32))] [] := by first | (simp [entryFrame, mkF, argsToLocals, Value.category]; done) | rfl
def Q28_1 (Z : State)  (h0 : Heap) (n0 : Nat) (v : Option Value) (h : Heap) (L : List Loc) : Prop := v = some (.int (2 : Int32)) ∧ Fr n0 L ∧ h = h0
set_option maxRecDepth 65536 in
set_option maxHeartbeats 40000000 in
theorem rm28_1 (l : Launch) (Z : State) (a0 : Array Value) (hw : ∀ d ∈ tables_1, d.before a0 Z = true)  (h0 : Heap) (n0 : Nat) (Zs : n0 ≤ h0.size) :
    Met1 l Z (⟨"java/lang/StringUTF16", "newBytesLength", "(I)I"⟩ : MethodName) jdk_52_method_3_code 1 (some .int) ({ frames := 0, cells := 0, slots := 0, locals := 0 } : Room) #[(.int (1 : Int32))] h0 (Q28_1 Z  h0 n0) := by
  refine own_met_of (plainFor_of_name pn_33) (ef_28_1 ) ?_
  intro p e s m below meth c s₁ X hx hby hml hZ hown hnm hret hlk eT
  have hown : s.vm.findClass "java/lang/StringUTF16" = some m.cls := hown
  have N := Fr.nil n0
  refine own_iloadN X hx hby (1 : Int32) d28_0 rfl 1 rfl ?_
  have c1 : ¬ (1 : Int32) < (0 : Int32) := by decide
  refine own_if_ge X hx hby d28_1 12 4 (by decide) rfl (fun _ => ?_) (fun q => absurd q c1)
  refine own_iloadN X hx hby (1 : Int32) d28_12 rfl 13 rfl ?_
  refine own_ldc X hx hby hZ (1073741823 : Int32) hown (hw _ (List.mem_of_getElem? (i := 124) rfl)) d28_13 15 rfl ?_
  have c15 : (1 : Int32) < (1073741823 : Int32) := by decide
  refine own_icmp_lt X hx hby d28_15 55 18 (by decide) rfl (fun _ => ?_) (fun q => absurd c15 q)
  refine own_iloadN X hx hby (1 : Int32) d28_55 rfl 56 rfl ?_
  refine own_iconst X hx hby (1 : Int32) d28_56 rfl 57 rfl ?_
  refine own_ishl X hx hby d28_57 58 rfl ?_
  refine own_top (v' := (.int (2 : Int32))) (congrArg Value.int (by decide)) ?_
  refine own_retI X hx hby hret hlk d28_58 (by decide) (by decide) ?_
  rw [eT]
  exact ⟨rfl, N, rfl⟩
theorem ef_27_1  (m : MethodId) : entryFrame m #[(.int (1 : Int32))] 1 = mkF m 0 #[.val (.int (1 : Int32))] [] := by first | (simp [entryFrame, mkF, argsToLocals, Value.category]; done) | rfl
def Q27_1 (Z : State)  (h0 : Heap) (n0 : Nat) (v : Option Value) (h : Heap) (L : List Loc) : Prop := ∃ (b4 : Addr), v = some (.ref b4) ∧ Fr n0 L ∧ Keep h0 h [] ∧ h0.size ≤ b4 ∧ Afi Z h b4 .byte 2 (fun _ => (0 : Int32)) ∧ Exa Z h b4 "[B"
set_option maxRecDepth 65536 in
set_option maxHeartbeats 40000000 in
theorem rm27_1 (l : Launch) (Z : State) (a0 : Array Value) (hw : ∀ d ∈ tables_1, d.before a0 Z = true)  (h0 : Heap) (n0 : Nat) (Zs : n0 ≤ h0.size) :
    Met1 l Z (⟨"java/lang/StringUTF16", "newBytesFor", "(I)[B"⟩ : MethodName) jdk_52_method_2_code 1 (some (.array .byte)) ({ frames := 1, cells := 1, slots := 2, locals := 12 } : Room) #[(.int (1 : Int32))] h0 (Q27_1 Z  h0 n0) := by
  refine own_met_of (plainFor_of_name pn_33) (ef_27_1 ) ?_
  intro p e s m below meth c s₁ X hx hby hml hZ hown hnm hret hlk eT
  have hown : s.vm.findClass "java/lang/StringUTF16" = some m.cls := hown
  have N := Fr.nil n0
  have K := Keep.refl h0 []
  refine own_iloadN X hx hby (1 : Int32) d27_0 rfl 1 rfl ?_
  refine own_callS X hx hby hZ (st := []) [(.int (1 : Int32))] rfl hown (hw _ (List.mem_of_getElem? (i := 121) rfl)) (hw _ (List.mem_of_getElem? (i := 122) rfl)) (hw _ (List.mem_of_getElem? (i := 40) rfl)) (hw _ (List.mem_of_getElem? (i := 123) rfl)) (by decide) d27_1 (rm28_1 l Z a0 hw  h0 n0 Zs ) eT pd_6 rfl (by rw [hml]; rfl) (by decide) 0 rfl (by decide) (by decide) (by decide) 4 rfl ?_
  intro T1 L9 v9 X hQ
  obtain ⟨rfl, N9, eT⟩ := hQ
  have N := Fr.app N N9
  show Go p e below _ T1 (mkF m 4 #[.val (.int (1 : Int32))] [(.int (2 : Int32))])
  refine own_newarray X hx hby hZ (hw _ (List.mem_of_getElem? (i := 21) rfl)) eT d27_4 (z := (2 : Int32)) (by decide) (n := 2) rfl (cap := 2) (by decide) (by decide) (by decide) (by decide) (ad := "[B") rfl 6 rfl ?_
  intro T4 h4 b4 gb4 X eT Ex A A2
  have g_b4 : n0 ≤ b4 := by rw [gb4]; exact Zs
  have sz_b4 : h0.size ≤ b4 := by rw [gb4]; exact K.1
  have A_b4 : Afi Z h4 b4 .byte 2 (fun _ => (0 : Int32)) := A
  have E_b4 := A2
  have K := K.ext Ex
  have Zs := Nat.le_trans Zs Ex.1
  refine own_retA X hx hby hret hlk rfl rfl rfl d27_6 (by decide) (by decide) ?_
  rw [eT]
  exact ⟨b4, rfl, N, K, sz_b4, A_b4, E_b4⟩
theorem ef_9_1_1 (a1 : Addr) (m : MethodId) : entryFrame m #[(.ref a1), (.int (1 : Int32))] 2 = mkF m 0 #[.val (.ref a1), .val (.int (1 : Int32))] [] := by first | (simp [entryFrame, mkF, argsToLocals, Value.category]; done) | rfl
def Q9_1_1 (Z : State) (a1 : Addr) (ar_a1 : Nat → Int32) (h0 : Heap) (n0 : Nat) (v : Option Value) (h : Heap) (L : List Loc) : Prop := v = some (.int (0 : Int32)) ∧ Fr n0 L ∧ h = h0
set_option maxRecDepth 65536 in
set_option maxHeartbeats 40000000 in
theorem rm9_1_1 (l : Launch) (Z : State) (a0 : Array Value) (hw : ∀ d ∈ tables_1, d.before a0 Z = true) (a1 : Addr) (ar_a1 : Nat → Int32) (h0 : Heap) (n0 : Nat) (Zs : n0 ≤ h0.size) (A_a1 : Afi Z h0 a1 .byte 1 ar_a1) (E_a1 : Exa Z h0 a1 "[B") :
    Met1 l Z (⟨"java/lang/StringUTF16", "coderFromArrayLen", "([BI)B"⟩ : MethodName) jdk_52_method_15_code 2 (some .byte) ({ frames := 0, cells := 0, slots := 0, locals := 0 } : Room) #[(.ref a1), (.int (1 : Int32))] h0 (Q9_1_1 Z a1 ar_a1 h0 n0) := by
  refine own_met_of (plainFor_of_name pn_33) (ef_9_1_1 a1) ?_
  intro p e s m below meth c s₁ X hx hby hml hZ hown hnm hret hlk eT
  have hown : s.vm.findClass "java/lang/StringUTF16" = some m.cls := hown
  have N := Fr.nil n0
  refine own_iloadN X hx hby (1 : Int32) d9_0 rfl 1 rfl ?_
  refine own_aloadN X hx hby (.ref a1) d9_1 rfl rfl 2 rfl ?_
  refine own_arraylength X hx hby hZ (1 : Int32) eT A_a1 rfl d9_2 3 rfl ?_
  refine own_isub X hx hby d9_3 4 rfl ?_
  refine own_top (v' := (.int (0 : Int32))) (congrArg Value.int (by decide)) ?_
  refine own_bipush X hx hby (31 : Int32) d9_4 rfl 6 rfl ?_
  refine own_iushr X hx hby d9_6 7 rfl ?_
  refine own_top (v' := (.int (0 : Int32))) (congrArg Value.int (by decide)) ?_
  refine own_i2b X hx hby d9_7 8 rfl ?_
  refine own_top (v' := (.int (0 : Int32))) (congrArg Value.int (by decide)) ?_
  refine own_retN X hx hby hret hlk (t := .byte) (z' := (0 : Int32)) (by simp) d9_8 (by decide) (by decide) rfl ?_
  rw [eT]
  exact ⟨rfl, N, rfl⟩
theorem ef_9_1_2 (a1 : Addr) (m : MethodId) : entryFrame m #[(.ref a1), (.int (1 : Int32))] 2 = mkF m 0 #[.val (.ref a1), .val (.int (1 : Int32))] [] := by first | (simp [entryFrame, mkF, argsToLocals, Value.category]; done) | rfl
def Q9_1_2 (Z : State) (a1 : Addr) (ar_a1 : Nat → Int32) (h0 : Heap) (n0 : Nat) (v : Option Value) (h : Heap) (L : List Loc) : Prop := v = some (.int (1 : Int32)) ∧ Fr n0 L ∧ h = h0
set_option maxRecDepth 65536 in
set_option maxHeartbeats 40000000 in
theorem rm9_1_2 (l : Launch) (Z : State) (a0 : Array Value) (hw : ∀ d ∈ tables_1, d.before a0 Z = true) (a1 : Addr) (ar_a1 : Nat → Int32) (h0 : Heap) (n0 : Nat) (Zs : n0 ≤ h0.size) (A_a1 : Afi Z h0 a1 .byte 2 ar_a1) (E_a1 : Exa Z h0 a1 "[B") :
    Met1 l Z (⟨"java/lang/StringUTF16", "coderFromArrayLen", "([BI)B"⟩ : MethodName) jdk_52_method_15_code 2 (some .byte) ({ frames := 0, cells := 0, slots := 0, locals := 0 } : Room) #[(.ref a1), (.int (1 : Int32))] h0 (Q9_1_2 Z a1 ar_a1 h0 n0) := by
  refine own_met_of (plainFor_of_name pn_33) (ef_9_1_2 a1) ?_
  intro p e s m below meth c s₁ X hx hby hml hZ hown hnm hret hlk eT
  have hown : s.vm.findClass "java/lang/StringUTF16" = some m.cls := hown
  have N := Fr.nil n0
  refine own_iloadN X hx hby (1 : Int32) d9_0 rfl 1 rfl ?_
  refine own_aloadN X hx hby (.ref a1) d9_1 rfl rfl 2 rfl ?_
  refine own_arraylength X hx hby hZ (2 : Int32) eT A_a1 rfl d9_2 3 rfl ?_
  refine own_isub X hx hby d9_3 4 rfl ?_
  refine own_top (v' := (.int (-1 : Int32))) (congrArg Value.int (by decide)) ?_
  refine own_bipush X hx hby (31 : Int32) d9_4 rfl 6 rfl ?_
  refine own_iushr X hx hby d9_6 7 rfl ?_
  refine own_top (v' := (.int (1 : Int32))) (congrArg Value.int (by decide)) ?_
  refine own_i2b X hx hby d9_7 8 rfl ?_
  refine own_top (v' := (.int (1 : Int32))) (congrArg Value.int (by decide)) ?_
  refine own_retN X hx hby hret hlk (t := .byte) (z' := (1 : Int32)) (by simp) d9_8 (by decide) (by decide) rfl ?_
  rw [eT]
  exact ⟨rfl, N, rfl⟩
theorem ef_28_2  (m : MethodId) : entryFrame m #[(.int (2 : Int32))] 1 = mkF m 0 #[.val (.int (2 : Int32))] [] := by first | (simp [entryFrame, mkF, argsToLocals, Value.category]; done) | rfl
def Q28_2 (Z : State)  (h0 : Heap) (n0 : Nat) (v : Option Value) (h : Heap) (L : List Loc) : Prop := v = some (.int (4 : Int32)) ∧ Fr n0 L ∧ h = h0
set_option maxRecDepth 65536 in
set_option maxHeartbeats 40000000 in
theorem rm28_2 (l : Launch) (Z : State) (a0 : Array Value) (hw : ∀ d ∈ tables_1, d.before a0 Z = true)  (h0 : Heap) (n0 : Nat) (Zs : n0 ≤ h0.size) :
    Met1 l Z (⟨"java/lang/StringUTF16", "newBytesLength", "(I)I"⟩ : MethodName) jdk_52_method_3_code 1 (some .int) ({ frames := 0, cells := 0, slots := 0, locals := 0 } : Room) #[(.int (2 : Int32))] h0 (Q28_2 Z  h0 n0) := by
  refine own_met_of (plainFor_of_name pn_33) (ef_28_2 ) ?_
  intro p e s m below meth c s₁ X hx hby hml hZ hown hnm hret hlk eT
  have hown : s.vm.findClass "java/lang/StringUTF16" = some m.cls := hown
  have N := Fr.nil n0
  refine own_iloadN X hx hby (2 : Int32) d28_0 rfl 1 rfl ?_
  have c1 : ¬ (2 : Int32) < (0 : Int32) := by decide
  refine own_if_ge X hx hby d28_1 12 4 (by decide) rfl (fun _ => ?_) (fun q => absurd q c1)
  refine own_iloadN X hx hby (2 : Int32) d28_12 rfl 13 rfl ?_
  refine own_ldc X hx hby hZ (1073741823 : Int32) hown (hw _ (List.mem_of_getElem? (i := 124) rfl)) d28_13 15 rfl ?_
  have c15 : (2 : Int32) < (1073741823 : Int32) := by decide
  refine own_icmp_lt X hx hby d28_15 55 18 (by decide) rfl (fun _ => ?_) (fun q => absurd c15 q)
  refine own_iloadN X hx hby (2 : Int32) d28_55 rfl 56 rfl ?_
  refine own_iconst X hx hby (1 : Int32) d28_56 rfl 57 rfl ?_
  refine own_ishl X hx hby d28_57 58 rfl ?_
  refine own_top (v' := (.int (4 : Int32))) (congrArg Value.int (by decide)) ?_
  refine own_retI X hx hby hret hlk d28_58 (by decide) (by decide) ?_
  rw [eT]
  exact ⟨rfl, N, rfl⟩
theorem ef_27_2  (m : MethodId) : entryFrame m #[(.int (2 : Int32))] 1 = mkF m 0 #[.val (.int (2 : Int32))] [] := by first | (simp [entryFrame, mkF, argsToLocals, Value.category]; done) | rfl
def Q27_2 (Z : State)  (h0 : Heap) (n0 : Nat) (v : Option Value) (h : Heap) (L : List Loc) : Prop := ∃ (b4 : Addr), v = some (.ref b4) ∧ Fr n0 L ∧ Keep h0 h [] ∧ h0.size ≤ b4 ∧ Afi Z h b4 .byte 4 (fun _ => (0 : Int32)) ∧ Exa Z h b4 "[B"
set_option maxRecDepth 65536 in
set_option maxHeartbeats 40000000 in
theorem rm27_2 (l : Launch) (Z : State) (a0 : Array Value) (hw : ∀ d ∈ tables_1, d.before a0 Z = true)  (h0 : Heap) (n0 : Nat) (Zs : n0 ≤ h0.size) :
    Met1 l Z (⟨"java/lang/StringUTF16", "newBytesFor", "(I)[B"⟩ : MethodName) jdk_52_method_2_code 1 (some (.array .byte)) ({ frames := 1, cells := 1, slots := 4, locals := 12 } : Room) #[(.int (2 : Int32))] h0 (Q27_2 Z  h0 n0) := by
  refine own_met_of (plainFor_of_name pn_33) (ef_27_2 ) ?_
  intro p e s m below meth c s₁ X hx hby hml hZ hown hnm hret hlk eT
  have hown : s.vm.findClass "java/lang/StringUTF16" = some m.cls := hown
  have N := Fr.nil n0
  have K := Keep.refl h0 []
  refine own_iloadN X hx hby (2 : Int32) d27_0 rfl 1 rfl ?_
  refine own_callS X hx hby hZ (st := []) [(.int (2 : Int32))] rfl hown (hw _ (List.mem_of_getElem? (i := 121) rfl)) (hw _ (List.mem_of_getElem? (i := 122) rfl)) (hw _ (List.mem_of_getElem? (i := 40) rfl)) (hw _ (List.mem_of_getElem? (i := 123) rfl)) (by decide) d27_1 (rm28_2 l Z a0 hw  h0 n0 Zs ) eT pd_6 rfl (by rw [hml]; rfl) (by decide) 0 rfl (by decide) (by decide) (by decide) 4 rfl ?_
  intro T1 L9 v9 X hQ
  obtain ⟨rfl, N9, eT⟩ := hQ
  have N := Fr.app N N9
  show Go p e below _ T1 (mkF m 4 #[.val (.int (2 : Int32))] [(.int (4 : Int32))])
  refine own_newarray X hx hby hZ (hw _ (List.mem_of_getElem? (i := 21) rfl)) eT d27_4 (z := (4 : Int32)) (by decide) (n := 4) rfl (cap := 4) (by decide) (by decide) (by decide) (by decide) (ad := "[B") rfl 6 rfl ?_
  intro T4 h4 b4 gb4 X eT Ex A A2
  have g_b4 : n0 ≤ b4 := by rw [gb4]; exact Zs
  have sz_b4 : h0.size ≤ b4 := by rw [gb4]; exact K.1
  have A_b4 : Afi Z h4 b4 .byte 4 (fun _ => (0 : Int32)) := A
  have E_b4 := A2
  have K := K.ext Ex
  have Zs := Nat.le_trans Zs Ex.1
  refine own_retA X hx hby hret hlk rfl rfl rfl d27_6 (by decide) (by decide) ?_
  rw [eT]
  exact ⟨b4, rfl, N, K, sz_b4, A_b4, E_b4⟩
theorem ef_9_2_2 (a1 : Addr) (m : MethodId) : entryFrame m #[(.ref a1), (.int (2 : Int32))] 2 = mkF m 0 #[.val (.ref a1), .val (.int (2 : Int32))] [] := by first | (simp [entryFrame, mkF, argsToLocals, Value.category]; done) | rfl
def Q9_2_2 (Z : State) (a1 : Addr) (ar_a1 : Nat → Int32) (h0 : Heap) (n0 : Nat) (v : Option Value) (h : Heap) (L : List Loc) : Prop := v = some (.int (0 : Int32)) ∧ Fr n0 L ∧ h = h0
set_option maxRecDepth 65536 in
set_option maxHeartbeats 40000000 in
theorem rm9_2_2 (l : Launch) (Z : State) (a0 : Array Value) (hw : ∀ d ∈ tables_1, d.before a0 Z = true) (a1 : Addr) (ar_a1 : Nat → Int32) (h0 : Heap) (n0 : Nat) (Zs : n0 ≤ h0.size) (A_a1 : Afi Z h0 a1 .byte 2 ar_a1) (E_a1 : Exa Z h0 a1 "[B") :
    Met1 l Z (⟨"java/lang/StringUTF16", "coderFromArrayLen", "([BI)B"⟩ : MethodName) jdk_52_method_15_code 2 (some .byte) ({ frames := 0, cells := 0, slots := 0, locals := 0 } : Room) #[(.ref a1), (.int (2 : Int32))] h0 (Q9_2_2 Z a1 ar_a1 h0 n0) := by
  refine own_met_of (plainFor_of_name pn_33) (ef_9_2_2 a1) ?_
  intro p e s m below meth c s₁ X hx hby hml hZ hown hnm hret hlk eT
  have hown : s.vm.findClass "java/lang/StringUTF16" = some m.cls := hown
  have N := Fr.nil n0
  refine own_iloadN X hx hby (2 : Int32) d9_0 rfl 1 rfl ?_
  refine own_aloadN X hx hby (.ref a1) d9_1 rfl rfl 2 rfl ?_
  refine own_arraylength X hx hby hZ (2 : Int32) eT A_a1 rfl d9_2 3 rfl ?_
  refine own_isub X hx hby d9_3 4 rfl ?_
  refine own_top (v' := (.int (0 : Int32))) (congrArg Value.int (by decide)) ?_
  refine own_bipush X hx hby (31 : Int32) d9_4 rfl 6 rfl ?_
  refine own_iushr X hx hby d9_6 7 rfl ?_
  refine own_top (v' := (.int (0 : Int32))) (congrArg Value.int (by decide)) ?_
  refine own_i2b X hx hby d9_7 8 rfl ?_
  refine own_top (v' := (.int (0 : Int32))) (congrArg Value.int (by decide)) ?_
  refine own_retN X hx hby hret hlk (t := .byte) (z' := (0 : Int32)) (by simp) d9_8 (by decide) (by decide) rfl ?_
  rw [eT]
  exact ⟨rfl, N, rfl⟩
theorem ef_9_2_4 (a1 : Addr) (m : MethodId) : entryFrame m #[(.ref a1), (.int (2 : Int32))] 2 = mkF m 0 #[.val (.ref a1), .val (.int (2 : Int32))] [] := by first | (simp [entryFrame, mkF, argsToLocals, Value.category]; done) | rfl
def Q9_2_4 (Z : State) (a1 : Addr) (ar_a1 : Nat → Int32) (h0 : Heap) (n0 : Nat) (v : Option Value) (h : Heap) (L : List Loc) : Prop := v = some (.int (1 : Int32)) ∧ Fr n0 L ∧ h = h0
set_option maxRecDepth 65536 in
set_option maxHeartbeats 40000000 in
theorem rm9_2_4 (l : Launch) (Z : State) (a0 : Array Value) (hw : ∀ d ∈ tables_1, d.before a0 Z = true) (a1 : Addr) (ar_a1 : Nat → Int32) (h0 : Heap) (n0 : Nat) (Zs : n0 ≤ h0.size) (A_a1 : Afi Z h0 a1 .byte 4 ar_a1) (E_a1 : Exa Z h0 a1 "[B") :
    Met1 l Z (⟨"java/lang/StringUTF16", "coderFromArrayLen", "([BI)B"⟩ : MethodName) jdk_52_method_15_code 2 (some .byte) ({ frames := 0, cells := 0, slots := 0, locals := 0 } : Room) #[(.ref a1), (.int (2 : Int32))] h0 (Q9_2_4 Z a1 ar_a1 h0 n0) := by
  refine own_met_of (plainFor_of_name pn_33) (ef_9_2_4 a1) ?_
  intro p e s m below meth c s₁ X hx hby hml hZ hown hnm hret hlk eT
  have hown : s.vm.findClass "java/lang/StringUTF16" = some m.cls := hown
  have N := Fr.nil n0
  refine own_iloadN X hx hby (2 : Int32) d9_0 rfl 1 rfl ?_
  refine own_aloadN X hx hby (.ref a1) d9_1 rfl rfl 2 rfl ?_
  refine own_arraylength X hx hby hZ (4 : Int32) eT A_a1 rfl d9_2 3 rfl ?_
  refine own_isub X hx hby d9_3 4 rfl ?_
  refine own_top (v' := (.int (-2 : Int32))) (congrArg Value.int (by decide)) ?_
  refine own_bipush X hx hby (31 : Int32) d9_4 rfl 6 rfl ?_
  refine own_iushr X hx hby d9_6 7 rfl ?_
  refine own_top (v' := (.int (1 : Int32))) (congrArg Value.int (by decide)) ?_
  refine own_i2b X hx hby d9_7 8 rfl ?_
  refine own_top (v' := (.int (1 : Int32))) (congrArg Value.int (by decide)) ?_
  refine own_retN X hx hby hret hlk (t := .byte) (z' := (1 : Int32)) (by simp) d9_8 (by decide) (by decide) rfl ?_
  rw [eT]
  exact ⟨rfl, N, rfl⟩
theorem ef_28_3  (m : MethodId) : entryFrame m #[(.int (3 : Int32))] 1 = mkF m 0 #[.val (.int (3 : Int32))] [] := by first | (simp [entryFrame, mkF, argsToLocals, Value.category]; done) | rfl
def Q28_3 (Z : State)  (h0 : Heap) (n0 : Nat) (v : Option Value) (h : Heap) (L : List Loc) : Prop := v = some (.int (6 : Int32)) ∧ Fr n0 L ∧ h = h0
set_option maxRecDepth 65536 in
set_option maxHeartbeats 40000000 in
theorem rm28_3 (l : Launch) (Z : State) (a0 : Array Value) (hw : ∀ d ∈ tables_1, d.before a0 Z = true)  (h0 : Heap) (n0 : Nat) (Zs : n0 ≤ h0.size) :
    Met1 l Z (⟨"java/lang/StringUTF16", "newBytesLength", "(I)I"⟩ : MethodName) jdk_52_method_3_code 1 (some .int) ({ frames := 0, cells := 0, slots := 0, locals := 0 } : Room) #[(.int (3 : Int32))] h0 (Q28_3 Z  h0 n0) := by
  refine own_met_of (plainFor_of_name pn_33) (ef_28_3 ) ?_
  intro p e s m below meth c s₁ X hx hby hml hZ hown hnm hret hlk eT
  have hown : s.vm.findClass "java/lang/StringUTF16" = some m.cls := hown
  have N := Fr.nil n0
  refine own_iloadN X hx hby (3 : Int32) d28_0 rfl 1 rfl ?_
  have c1 : ¬ (3 : Int32) < (0 : Int32) := by decide
  refine own_if_ge X hx hby d28_1 12 4 (by decide) rfl (fun _ => ?_) (fun q => absurd q c1)
  refine own_iloadN X hx hby (3 : Int32) d28_12 rfl 13 rfl ?_
  refine own_ldc X hx hby hZ (1073741823 : Int32) hown (hw _ (List.mem_of_getElem? (i := 124) rfl)) d28_13 15 rfl ?_
  have c15 : (3 : Int32) < (1073741823 : Int32) := by decide
  refine own_icmp_lt X hx hby d28_15 55 18 (by decide) rfl (fun _ => ?_) (fun q => absurd c15 q)
  refine own_iloadN X hx hby (3 : Int32) d28_55 rfl 56 rfl ?_
  refine own_iconst X hx hby (1 : Int32) d28_56 rfl 57 rfl ?_
  refine own_ishl X hx hby d28_57 58 rfl ?_
  refine own_top (v' := (.int (6 : Int32))) (congrArg Value.int (by decide)) ?_
  refine own_retI X hx hby hret hlk d28_58 (by decide) (by decide) ?_
  rw [eT]
  exact ⟨rfl, N, rfl⟩
theorem ef_27_3  (m : MethodId) : entryFrame m #[(.int (3 : Int32))] 1 = mkF m 0 #[.val (.int (3 : Int32))] [] := by first | (simp [entryFrame, mkF, argsToLocals, Value.category]; done) | rfl
def Q27_3 (Z : State)  (h0 : Heap) (n0 : Nat) (v : Option Value) (h : Heap) (L : List Loc) : Prop := ∃ (b4 : Addr), v = some (.ref b4) ∧ Fr n0 L ∧ Keep h0 h [] ∧ h0.size ≤ b4 ∧ Afi Z h b4 .byte 6 (fun _ => (0 : Int32)) ∧ Exa Z h b4 "[B"
set_option maxRecDepth 65536 in
set_option maxHeartbeats 40000000 in
theorem rm27_3 (l : Launch) (Z : State) (a0 : Array Value) (hw : ∀ d ∈ tables_1, d.before a0 Z = true)  (h0 : Heap) (n0 : Nat) (Zs : n0 ≤ h0.size) :
    Met1 l Z (⟨"java/lang/StringUTF16", "newBytesFor", "(I)[B"⟩ : MethodName) jdk_52_method_2_code 1 (some (.array .byte)) ({ frames := 1, cells := 1, slots := 6, locals := 12 } : Room) #[(.int (3 : Int32))] h0 (Q27_3 Z  h0 n0) := by
  refine own_met_of (plainFor_of_name pn_33) (ef_27_3 ) ?_
  intro p e s m below meth c s₁ X hx hby hml hZ hown hnm hret hlk eT
  have hown : s.vm.findClass "java/lang/StringUTF16" = some m.cls := hown
  have N := Fr.nil n0
  have K := Keep.refl h0 []
  refine own_iloadN X hx hby (3 : Int32) d27_0 rfl 1 rfl ?_
  refine own_callS X hx hby hZ (st := []) [(.int (3 : Int32))] rfl hown (hw _ (List.mem_of_getElem? (i := 121) rfl)) (hw _ (List.mem_of_getElem? (i := 122) rfl)) (hw _ (List.mem_of_getElem? (i := 40) rfl)) (hw _ (List.mem_of_getElem? (i := 123) rfl)) (by decide) d27_1 (rm28_3 l Z a0 hw  h0 n0 Zs ) eT pd_6 rfl (by rw [hml]; rfl) (by decide) 0 rfl (by decide) (by decide) (by decide) 4 rfl ?_
  intro T1 L9 v9 X hQ
  obtain ⟨rfl, N9, eT⟩ := hQ
  have N := Fr.app N N9
  show Go p e below _ T1 (mkF m 4 #[.val (.int (3 : Int32))] [(.int (6 : Int32))])
  refine own_newarray X hx hby hZ (hw _ (List.mem_of_getElem? (i := 21) rfl)) eT d27_4 (z := (6 : Int32)) (by decide) (n := 6) rfl (cap := 6) (by decide) (by decide) (by decide) (by decide) (ad := "[B") rfl 6 rfl ?_
  intro T4 h4 b4 gb4 X eT Ex A A2
  have g_b4 : n0 ≤ b4 := by rw [gb4]; exact Zs
  have sz_b4 : h0.size ≤ b4 := by rw [gb4]; exact K.1
  have A_b4 : Afi Z h4 b4 .byte 6 (fun _ => (0 : Int32)) := A
  have E_b4 := A2
  have K := K.ext Ex
  have Zs := Nat.le_trans Zs Ex.1
  refine own_retA X hx hby hret hlk rfl rfl rfl d27_6 (by decide) (by decide) ?_
  rw [eT]
  exact ⟨b4, rfl, N, K, sz_b4, A_b4, E_b4⟩
theorem ef_9_3_3 (a1 : Addr) (m : MethodId) : entryFrame m #[(.ref a1), (.int (3 : Int32))] 2 = mkF m 0 #[.val (.ref a1), .val (.int (3 : Int32))] [] := by first | (simp [entryFrame, mkF, argsToLocals, Value.category]; done) | rfl
def Q9_3_3 (Z : State) (a1 : Addr) (ar_a1 : Nat → Int32) (h0 : Heap) (n0 : Nat) (v : Option Value) (h : Heap) (L : List Loc) : Prop := v = some (.int (0 : Int32)) ∧ Fr n0 L ∧ h = h0
set_option maxRecDepth 65536 in
set_option maxHeartbeats 40000000 in
theorem rm9_3_3 (l : Launch) (Z : State) (a0 : Array Value) (hw : ∀ d ∈ tables_1, d.before a0 Z = true) (a1 : Addr) (ar_a1 : Nat → Int32) (h0 : Heap) (n0 : Nat) (Zs : n0 ≤ h0.size) (A_a1 : Afi Z h0 a1 .byte 3 ar_a1) (E_a1 : Exa Z h0 a1 "[B") :
    Met1 l Z (⟨"java/lang/StringUTF16", "coderFromArrayLen", "([BI)B"⟩ : MethodName) jdk_52_method_15_code 2 (some .byte) ({ frames := 0, cells := 0, slots := 0, locals := 0 } : Room) #[(.ref a1), (.int (3 : Int32))] h0 (Q9_3_3 Z a1 ar_a1 h0 n0) := by
  refine own_met_of (plainFor_of_name pn_33) (ef_9_3_3 a1) ?_
  intro p e s m below meth c s₁ X hx hby hml hZ hown hnm hret hlk eT
  have hown : s.vm.findClass "java/lang/StringUTF16" = some m.cls := hown
  have N := Fr.nil n0
  refine own_iloadN X hx hby (3 : Int32) d9_0 rfl 1 rfl ?_
  refine own_aloadN X hx hby (.ref a1) d9_1 rfl rfl 2 rfl ?_
  refine own_arraylength X hx hby hZ (3 : Int32) eT A_a1 rfl d9_2 3 rfl ?_
  refine own_isub X hx hby d9_3 4 rfl ?_
  refine own_top (v' := (.int (0 : Int32))) (congrArg Value.int (by decide)) ?_
  refine own_bipush X hx hby (31 : Int32) d9_4 rfl 6 rfl ?_
  refine own_iushr X hx hby d9_6 7 rfl ?_
  refine own_top (v' := (.int (0 : Int32))) (congrArg Value.int (by decide)) ?_
  refine own_i2b X hx hby d9_7 8 rfl ?_
  refine own_top (v' := (.int (0 : Int32))) (congrArg Value.int (by decide)) ?_
  refine own_retN X hx hby hret hlk (t := .byte) (z' := (0 : Int32)) (by simp) d9_8 (by decide) (by decide) rfl ?_
  rw [eT]
  exact ⟨rfl, N, rfl⟩
theorem ef_9_3_6 (a1 : Addr) (m : MethodId) : entryFrame m #[(.ref a1), (.int (3 : Int32))] 2 = mkF m 0 #[.val (.ref a1), .val (.int (3 : Int32))] [] := by first | (simp [entryFrame, mkF, argsToLocals, Value.category]; done) | rfl
def Q9_3_6 (Z : State) (a1 : Addr) (ar_a1 : Nat → Int32) (h0 : Heap) (n0 : Nat) (v : Option Value) (h : Heap) (L : List Loc) : Prop := v = some (.int (1 : Int32)) ∧ Fr n0 L ∧ h = h0
set_option maxRecDepth 65536 in
set_option maxHeartbeats 40000000 in
theorem rm9_3_6 (l : Launch) (Z : State) (a0 : Array Value) (hw : ∀ d ∈ tables_1, d.before a0 Z = true) (a1 : Addr) (ar_a1 : Nat → Int32) (h0 : Heap) (n0 : Nat) (Zs : n0 ≤ h0.size) (A_a1 : Afi Z h0 a1 .byte 6 ar_a1) (E_a1 : Exa Z h0 a1 "[B") :
    Met1 l Z (⟨"java/lang/StringUTF16", "coderFromArrayLen", "([BI)B"⟩ : MethodName) jdk_52_method_15_code 2 (some .byte) ({ frames := 0, cells := 0, slots := 0, locals := 0 } : Room) #[(.ref a1), (.int (3 : Int32))] h0 (Q9_3_6 Z a1 ar_a1 h0 n0) := by
  refine own_met_of (plainFor_of_name pn_33) (ef_9_3_6 a1) ?_
  intro p e s m below meth c s₁ X hx hby hml hZ hown hnm hret hlk eT
  have hown : s.vm.findClass "java/lang/StringUTF16" = some m.cls := hown
  have N := Fr.nil n0
  refine own_iloadN X hx hby (3 : Int32) d9_0 rfl 1 rfl ?_
  refine own_aloadN X hx hby (.ref a1) d9_1 rfl rfl 2 rfl ?_
  refine own_arraylength X hx hby hZ (6 : Int32) eT A_a1 rfl d9_2 3 rfl ?_
  refine own_isub X hx hby d9_3 4 rfl ?_
  refine own_top (v' := (.int (-3 : Int32))) (congrArg Value.int (by decide)) ?_
  refine own_bipush X hx hby (31 : Int32) d9_4 rfl 6 rfl ?_
  refine own_iushr X hx hby d9_6 7 rfl ?_
  refine own_top (v' := (.int (1 : Int32))) (congrArg Value.int (by decide)) ?_
  refine own_i2b X hx hby d9_7 8 rfl ?_
  refine own_top (v' := (.int (1 : Int32))) (congrArg Value.int (by decide)) ?_
  refine own_retN X hx hby hret hlk (t := .byte) (z' := (1 : Int32)) (by simp) d9_8 (by decide) (by decide) rfl ?_
  rw [eT]
  exact ⟨rfl, N, rfl⟩
theorem ef_28_4  (m : MethodId) : entryFrame m #[(.int (4 : Int32))] 1 = mkF m 0 #[.val (.int (4 : Int32))] [] := by first | (simp [entryFrame, mkF, argsToLocals, Value.category]; done) | rfl
def Q28_4 (Z : State)  (h0 : Heap) (n0 : Nat) (v : Option Value) (h : Heap) (L : List Loc) : Prop := v = some (.int (8 : Int32)) ∧ Fr n0 L ∧ h = h0
set_option maxRecDepth 65536 in
set_option maxHeartbeats 40000000 in
theorem rm28_4 (l : Launch) (Z : State) (a0 : Array Value) (hw : ∀ d ∈ tables_1, d.before a0 Z = true)  (h0 : Heap) (n0 : Nat) (Zs : n0 ≤ h0.size) :
    Met1 l Z (⟨"java/lang/StringUTF16", "newBytesLength", "(I)I"⟩ : MethodName) jdk_52_method_3_code 1 (some .int) ({ frames := 0, cells := 0, slots := 0, locals := 0 } : Room) #[(.int (4 : Int32))] h0 (Q28_4 Z  h0 n0) := by
  refine own_met_of (plainFor_of_name pn_33) (ef_28_4 ) ?_
  intro p e s m below meth c s₁ X hx hby hml hZ hown hnm hret hlk eT
  have hown : s.vm.findClass "java/lang/StringUTF16" = some m.cls := hown
  have N := Fr.nil n0
  refine own_iloadN X hx hby (4 : Int32) d28_0 rfl 1 rfl ?_
  have c1 : ¬ (4 : Int32) < (0 : Int32) := by decide
  refine own_if_ge X hx hby d28_1 12 4 (by decide) rfl (fun _ => ?_) (fun q => absurd q c1)
  refine own_iloadN X hx hby (4 : Int32) d28_12 rfl 13 rfl ?_
  refine own_ldc X hx hby hZ (1073741823 : Int32) hown (hw _ (List.mem_of_getElem? (i := 124) rfl)) d28_13 15 rfl ?_
  have c15 : (4 : Int32) < (1073741823 : Int32) := by decide
  refine own_icmp_lt X hx hby d28_15 55 18 (by decide) rfl (fun _ => ?_) (fun q => absurd c15 q)
  refine own_iloadN X hx hby (4 : Int32) d28_55 rfl 56 rfl ?_
  refine own_iconst X hx hby (1 : Int32) d28_56 rfl 57 rfl ?_
  refine own_ishl X hx hby d28_57 58 rfl ?_
  refine own_top (v' := (.int (8 : Int32))) (congrArg Value.int (by decide)) ?_
  refine own_retI X hx hby hret hlk d28_58 (by decide) (by decide) ?_
  rw [eT]
  exact ⟨rfl, N, rfl⟩
theorem ef_27_4  (m : MethodId) : entryFrame m #[(.int (4 : Int32))] 1 = mkF m 0 #[.val (.int (4 : Int32))] [] := by first | (simp [entryFrame, mkF, argsToLocals, Value.category]; done) | rfl
def Q27_4 (Z : State)  (h0 : Heap) (n0 : Nat) (v : Option Value) (h : Heap) (L : List Loc) : Prop := ∃ (b4 : Addr), v = some (.ref b4) ∧ Fr n0 L ∧ Keep h0 h [] ∧ h0.size ≤ b4 ∧ Afi Z h b4 .byte 8 (fun _ => (0 : Int32)) ∧ Exa Z h b4 "[B"
set_option maxRecDepth 65536 in
set_option maxHeartbeats 40000000 in
theorem rm27_4 (l : Launch) (Z : State) (a0 : Array Value) (hw : ∀ d ∈ tables_1, d.before a0 Z = true)  (h0 : Heap) (n0 : Nat) (Zs : n0 ≤ h0.size) :
    Met1 l Z (⟨"java/lang/StringUTF16", "newBytesFor", "(I)[B"⟩ : MethodName) jdk_52_method_2_code 1 (some (.array .byte)) ({ frames := 1, cells := 1, slots := 8, locals := 12 } : Room) #[(.int (4 : Int32))] h0 (Q27_4 Z  h0 n0) := by
  refine own_met_of (plainFor_of_name pn_33) (ef_27_4 ) ?_
  intro p e s m below meth c s₁ X hx hby hml hZ hown hnm hret hlk eT
  have hown : s.vm.findClass "java/lang/StringUTF16" = some m.cls := hown
  have N := Fr.nil n0
  have K := Keep.refl h0 []
  refine own_iloadN X hx hby (4 : Int32) d27_0 rfl 1 rfl ?_
  refine own_callS X hx hby hZ (st := []) [(.int (4 : Int32))] rfl hown (hw _ (List.mem_of_getElem? (i := 121) rfl)) (hw _ (List.mem_of_getElem? (i := 122) rfl)) (hw _ (List.mem_of_getElem? (i := 40) rfl)) (hw _ (List.mem_of_getElem? (i := 123) rfl)) (by decide) d27_1 (rm28_4 l Z a0 hw  h0 n0 Zs ) eT pd_6 rfl (by rw [hml]; rfl) (by decide) 0 rfl (by decide) (by decide) (by decide) 4 rfl ?_
  intro T1 L9 v9 X hQ
  obtain ⟨rfl, N9, eT⟩ := hQ
  have N := Fr.app N N9
  show Go p e below _ T1 (mkF m 4 #[.val (.int (4 : Int32))] [(.int (8 : Int32))])
  refine own_newarray X hx hby hZ (hw _ (List.mem_of_getElem? (i := 21) rfl)) eT d27_4 (z := (8 : Int32)) (by decide) (n := 8) rfl (cap := 8) (by decide) (by decide) (by decide) (by decide) (ad := "[B") rfl 6 rfl ?_
  intro T4 h4 b4 gb4 X eT Ex A A2
  have g_b4 : n0 ≤ b4 := by rw [gb4]; exact Zs
  have sz_b4 : h0.size ≤ b4 := by rw [gb4]; exact K.1
  have A_b4 : Afi Z h4 b4 .byte 8 (fun _ => (0 : Int32)) := A
  have E_b4 := A2
  have K := K.ext Ex
  have Zs := Nat.le_trans Zs Ex.1
  refine own_retA X hx hby hret hlk rfl rfl rfl d27_6 (by decide) (by decide) ?_
  rw [eT]
  exact ⟨b4, rfl, N, K, sz_b4, A_b4, E_b4⟩
theorem ef_9_4_4 (a1 : Addr) (m : MethodId) : entryFrame m #[(.ref a1), (.int (4 : Int32))] 2 = mkF m 0 #[.val (.ref a1), .val (.int (4 : Int32))] [] := by first | (simp [entryFrame, mkF, argsToLocals, Value.category]; done) | rfl
def Q9_4_4 (Z : State) (a1 : Addr) (ar_a1 : Nat → Int32) (h0 : Heap) (n0 : Nat) (v : Option Value) (h : Heap) (L : List Loc) : Prop := v = some (.int (0 : Int32)) ∧ Fr n0 L ∧ h = h0
set_option maxRecDepth 65536 in
set_option maxHeartbeats 40000000 in
theorem rm9_4_4 (l : Launch) (Z : State) (a0 : Array Value) (hw : ∀ d ∈ tables_1, d.before a0 Z = true) (a1 : Addr) (ar_a1 : Nat → Int32) (h0 : Heap) (n0 : Nat) (Zs : n0 ≤ h0.size) (A_a1 : Afi Z h0 a1 .byte 4 ar_a1) (E_a1 : Exa Z h0 a1 "[B") :
    Met1 l Z (⟨"java/lang/StringUTF16", "coderFromArrayLen", "([BI)B"⟩ : MethodName) jdk_52_method_15_code 2 (some .byte) ({ frames := 0, cells := 0, slots := 0, locals := 0 } : Room) #[(.ref a1), (.int (4 : Int32))] h0 (Q9_4_4 Z a1 ar_a1 h0 n0) := by
  refine own_met_of (plainFor_of_name pn_33) (ef_9_4_4 a1) ?_
  intro p e s m below meth c s₁ X hx hby hml hZ hown hnm hret hlk eT
  have hown : s.vm.findClass "java/lang/StringUTF16" = some m.cls := hown
  have N := Fr.nil n0
  refine own_iloadN X hx hby (4 : Int32) d9_0 rfl 1 rfl ?_
  refine own_aloadN X hx hby (.ref a1) d9_1 rfl rfl 2 rfl ?_
  refine own_arraylength X hx hby hZ (4 : Int32) eT A_a1 rfl d9_2 3 rfl ?_
  refine own_isub X hx hby d9_3 4 rfl ?_
  refine own_top (v' := (.int (0 : Int32))) (congrArg Value.int (by decide)) ?_
  refine own_bipush X hx hby (31 : Int32) d9_4 rfl 6 rfl ?_
  refine own_iushr X hx hby d9_6 7 rfl ?_
  refine own_top (v' := (.int (0 : Int32))) (congrArg Value.int (by decide)) ?_
  refine own_i2b X hx hby d9_7 8 rfl ?_
  refine own_top (v' := (.int (0 : Int32))) (congrArg Value.int (by decide)) ?_
  refine own_retN X hx hby hret hlk (t := .byte) (z' := (0 : Int32)) (by simp) d9_8 (by decide) (by decide) rfl ?_
  rw [eT]
  exact ⟨rfl, N, rfl⟩
theorem ef_9_4_8 (a1 : Addr) (m : MethodId) : entryFrame m #[(.ref a1), (.int (4 : Int32))] 2 = mkF m 0 #[.val (.ref a1), .val (.int (4 : Int32))] [] := by first | (simp [entryFrame, mkF, argsToLocals, Value.category]; done) | rfl
def Q9_4_8 (Z : State) (a1 : Addr) (ar_a1 : Nat → Int32) (h0 : Heap) (n0 : Nat) (v : Option Value) (h : Heap) (L : List Loc) : Prop := v = some (.int (1 : Int32)) ∧ Fr n0 L ∧ h = h0
set_option maxRecDepth 65536 in
set_option maxHeartbeats 40000000 in
theorem rm9_4_8 (l : Launch) (Z : State) (a0 : Array Value) (hw : ∀ d ∈ tables_1, d.before a0 Z = true) (a1 : Addr) (ar_a1 : Nat → Int32) (h0 : Heap) (n0 : Nat) (Zs : n0 ≤ h0.size) (A_a1 : Afi Z h0 a1 .byte 8 ar_a1) (E_a1 : Exa Z h0 a1 "[B") :
    Met1 l Z (⟨"java/lang/StringUTF16", "coderFromArrayLen", "([BI)B"⟩ : MethodName) jdk_52_method_15_code 2 (some .byte) ({ frames := 0, cells := 0, slots := 0, locals := 0 } : Room) #[(.ref a1), (.int (4 : Int32))] h0 (Q9_4_8 Z a1 ar_a1 h0 n0) := by
  refine own_met_of (plainFor_of_name pn_33) (ef_9_4_8 a1) ?_
  intro p e s m below meth c s₁ X hx hby hml hZ hown hnm hret hlk eT
  have hown : s.vm.findClass "java/lang/StringUTF16" = some m.cls := hown
  have N := Fr.nil n0
  refine own_iloadN X hx hby (4 : Int32) d9_0 rfl 1 rfl ?_
  refine own_aloadN X hx hby (.ref a1) d9_1 rfl rfl 2 rfl ?_
  refine own_arraylength X hx hby hZ (8 : Int32) eT A_a1 rfl d9_2 3 rfl ?_
  refine own_isub X hx hby d9_3 4 rfl ?_
  refine own_top (v' := (.int (-4 : Int32))) (congrArg Value.int (by decide)) ?_
  refine own_bipush X hx hby (31 : Int32) d9_4 rfl 6 rfl ?_
  refine own_iushr X hx hby d9_6 7 rfl ?_
  refine own_top (v' := (.int (1 : Int32))) (congrArg Value.int (by decide)) ?_
  refine own_i2b X hx hby d9_7 8 rfl ?_
  refine own_top (v' := (.int (1 : Int32))) (congrArg Value.int (by decide)) ?_
  refine own_retN X hx hby hret hlk (t := .byte) (z' := (1 : Int32)) (by simp) d9_8 (by decide) (by decide) rfl ?_
  rw [eT]
  exact ⟨rfl, N, rfl⟩
theorem ef_29_0 (a1 : Addr) (p3 : Int32) (m : MethodId) : entryFrame m #[(.ref a1), (.int (0 : Int32)), (.int p3)] 3 = mkF m 0 #[.val (.ref a1), .val (.int (0 : Int32)), .val (.int p3)] [] := by first | (simp [entryFrame, mkF, argsToLocals, Value.category]; done) | rfl
def Q29_0 (Z : State) (a1 : Addr) (p3 : Int32) (ar_a1 : Nat → Int32) (n1 : Nat) (h0 : Heap) (n0 : Nat) (v : Option Value) (h : Heap) (L : List Loc) : Prop := v = none ∧ Fr n0 L ∧ Keep h0 h [a1] ∧ Afi Z h a1 .byte n1 (updI (updI ar_a1 0 (nar .byte ((p3 >>> ((0 : Int32) &&& 31)).toInt8.toInt32))) 1 (nar .byte ((p3 >>> ((8 : Int32) &&& 31)).toInt8.toInt32))) ∧ Exa Z h a1 "[B"
set_option maxRecDepth 65536 in
set_option maxHeartbeats 40000000 in
theorem rm29_0 (l : Launch) (Z : State) (a0 : Array Value) (hw : ∀ d ∈ tables_1, d.before a0 Z = true) (a1 : Addr) (p3 : Int32) (ar_a1 : Nat → Int32) (n1 : Nat) (h0 : Heap) (n0 : Nat) (Zs : n0 ≤ h0.size) (hb0 : ¬ ((0 : Int32) < 0 ∨ n1 ≤ Int32.toNatClampNeg (0 : Int32))) (hb1 : ¬ ((1 : Int32) < 0 ∨ n1 ≤ Int32.toNatClampNeg (1 : Int32))) (A_a1 : Afi Z h0 a1 .byte n1 ar_a1) (E_a1 : Exa Z h0 a1 "[B") (g_a1 : n0 ≤ a1) (S__assertionsDisabled : Sta Z h0 "java/lang/StringUTF16" "$assertionsDisabled" "Z" (.int (1 : Int32))) (S_HI_BYTE_SHIFT : Sta Z h0 "java/lang/StringUTF16" "HI_BYTE_SHIFT" "I" (.int (0 : Int32))) (S_LO_BYTE_SHIFT : Sta Z h0 "java/lang/StringUTF16" "LO_BYTE_SHIFT" "I" (.int (8 : Int32))) :
    Met1 l Z (⟨"java/lang/StringUTF16", "putChar", "([BII)V"⟩ : MethodName) jdk_52_method_4_code 3 none ({ frames := 0, cells := 0, slots := 0, locals := 0 } : Room) #[(.ref a1), (.int (0 : Int32)), (.int p3)] h0 (Q29_0 Z a1 p3 ar_a1 n1 h0 n0) := by
  refine own_met_of (plainFor_of_name pn_33) (ef_29_0 a1 p3) ?_
  intro p e s m below meth c s₁ X hx hby hml hZ hown hnm hret hlk eT
  have hown : s.vm.findClass "java/lang/StringUTF16" = some m.cls := hown
  have N := Fr.nil n0
  have K := Keep.refl h0 [a1]
  refine own_getS X hx hby hZ hown (host := "") (Or.inl (hw _ (List.mem_of_getElem? (i := 128) rfl))) Via.refl eT S__assertionsDisabled d29_0 3 rfl ?_
  intro T0 X eT
  have c3 : ¬ (1 : Int32) = (0 : Int32) := by decide
  refine own_if_ne X hx hby d29_3 28 6 (by decide) rfl (fun _ => ?_) (fun q => absurd q c3)
  refine own_iloadN X hx hby (0 : Int32) d29_28 rfl 29 rfl ?_
  refine own_iconst X hx hby (1 : Int32) d29_29 rfl 30 rfl ?_
  refine own_ishl X hx hby d29_30 31 rfl ?_
  refine own_top (v' := (.int (0 : Int32))) (congrArg Value.int (by decide)) ?_
  refine own_istoreN X hx hby d29_31 rfl (l' := #[.val (.ref a1), .val (.int (0 : Int32)), .val (.int p3)]) rfl 32 rfl ?_
  refine own_aloadN X hx hby (.ref a1) d29_32 rfl rfl 33 rfl ?_
  refine own_iloadN X hx hby (0 : Int32) d29_33 rfl 34 rfl ?_
  refine own_iinc X hx hby d29_34 (x := (0 : Int32)) rfl (by decide) (l' := #[.val (.ref a1), .val (.int (1 : Int32)), .val (.int p3)]) rfl 37 rfl ?_
  refine own_iloadN X hx hby p3 d29_37 rfl 38 rfl ?_
  refine own_getS X hx hby hZ hown (host := "") (Or.inl (hw _ (List.mem_of_getElem? (i := 129) rfl))) Via.refl eT S_HI_BYTE_SHIFT d29_38 41 rfl ?_
  intro T38 X eT
  refine own_ishr X hx hby d29_41 42 rfl ?_
  refine own_i2b X hx hby d29_42 43 rfl ?_
  refine own_bastore X hx hby hZ eT A_a1 hb0 d29_43 44 rfl ?_
  intro T43 h43 X eT W A
  have E_a1 := E_a1.wr W
  have S__assertionsDisabled := S__assertionsDisabled.wr W
  have S_HI_BYTE_SHIFT := S_HI_BYTE_SHIFT.wr W
  have S_LO_BYTE_SHIFT := S_LO_BYTE_SHIFT.wr W
  have A_a1 : Afi Z h43 a1 .byte n1 (updI ar_a1 0 (nar .byte ((p3 >>> ((0 : Int32) &&& 31)).toInt8.toInt32))) := A
  have N := Fr.snoc X N g_a1
  have K := K.wr W (Or.inl (List.mem_of_getElem? (i := 0) rfl))
  have Zs := Nat.le_trans Zs (Keep.of_wr W).1
  refine own_aloadN X hx hby (.ref a1) d29_44 rfl rfl 45 rfl ?_
  refine own_iloadN X hx hby (1 : Int32) d29_45 rfl 46 rfl ?_
  refine own_iloadN X hx hby p3 d29_46 rfl 47 rfl ?_
  refine own_getS X hx hby hZ hown (host := "") (Or.inl (hw _ (List.mem_of_getElem? (i := 130) rfl))) Via.refl eT S_LO_BYTE_SHIFT d29_47 50 rfl ?_
  intro T47 X eT
  refine own_ishr X hx hby d29_50 51 rfl ?_
  refine own_i2b X hx hby d29_51 52 rfl ?_
  refine own_bastore X hx hby hZ eT A_a1 hb1 d29_52 53 rfl ?_
  intro T52 h52 X eT W A
  have E_a1 := E_a1.wr W
  have S__assertionsDisabled := S__assertionsDisabled.wr W
  have S_HI_BYTE_SHIFT := S_HI_BYTE_SHIFT.wr W
  have S_LO_BYTE_SHIFT := S_LO_BYTE_SHIFT.wr W
  have A_a1 : Afi Z h52 a1 .byte n1 (updI (updI ar_a1 0 (nar .byte ((p3 >>> ((0 : Int32) &&& 31)).toInt8.toInt32))) 1 (nar .byte ((p3 >>> ((8 : Int32) &&& 31)).toInt8.toInt32))) := A
  have N := Fr.snoc X N g_a1
  have K := K.wr W (Or.inl (List.mem_of_getElem? (i := 0) rfl))
  have Zs := Nat.le_trans Zs (Keep.of_wr W).1
  refine own_ret X hx hby hret hlk d29_53 (by decide) (by decide) ?_
  rw [eT]
  exact ⟨rfl, N, K, A_a1, E_a1⟩
theorem ef_29_1 (a1 : Addr) (p3 : Int32) (m : MethodId) : entryFrame m #[(.ref a1), (.int (1 : Int32)), (.int p3)] 3 = mkF m 0 #[.val (.ref a1), .val (.int (1 : Int32)), .val (.int p3)] [] := by first | (simp [entryFrame, mkF, argsToLocals, Value.category]; done) | rfl
def Q29_1 (Z : State) (a1 : Addr) (p3 : Int32) (ar_a1 : Nat → Int32) (n1 : Nat) (h0 : Heap) (n0 : Nat) (v : Option Value) (h : Heap) (L : List Loc) : Prop := v = none ∧ Fr n0 L ∧ Keep h0 h [a1] ∧ Afi Z h a1 .byte n1 (updI (updI ar_a1 2 (nar .byte ((p3 >>> ((0 : Int32) &&& 31)).toInt8.toInt32))) 3 (nar .byte ((p3 >>> ((8 : Int32) &&& 31)).toInt8.toInt32))) ∧ Exa Z h a1 "[B"
set_option maxRecDepth 65536 in
set_option maxHeartbeats 40000000 in
theorem rm29_1 (l : Launch) (Z : State) (a0 : Array Value) (hw : ∀ d ∈ tables_1, d.before a0 Z = true) (a1 : Addr) (p3 : Int32) (ar_a1 : Nat → Int32) (n1 : Nat) (h0 : Heap) (n0 : Nat) (Zs : n0 ≤ h0.size) (hb0 : ¬ ((2 : Int32) < 0 ∨ n1 ≤ Int32.toNatClampNeg (2 : Int32))) (hb1 : ¬ ((3 : Int32) < 0 ∨ n1 ≤ Int32.toNatClampNeg (3 : Int32))) (A_a1 : Afi Z h0 a1 .byte n1 ar_a1) (E_a1 : Exa Z h0 a1 "[B") (g_a1 : n0 ≤ a1) (S__assertionsDisabled : Sta Z h0 "java/lang/StringUTF16" "$assertionsDisabled" "Z" (.int (1 : Int32))) (S_HI_BYTE_SHIFT : Sta Z h0 "java/lang/StringUTF16" "HI_BYTE_SHIFT" "I" (.int (0 : Int32))) (S_LO_BYTE_SHIFT : Sta Z h0 "java/lang/StringUTF16" "LO_BYTE_SHIFT" "I" (.int (8 : Int32))) :
    Met1 l Z (⟨"java/lang/StringUTF16", "putChar", "([BII)V"⟩ : MethodName) jdk_52_method_4_code 3 none ({ frames := 0, cells := 0, slots := 0, locals := 0 } : Room) #[(.ref a1), (.int (1 : Int32)), (.int p3)] h0 (Q29_1 Z a1 p3 ar_a1 n1 h0 n0) := by
  refine own_met_of (plainFor_of_name pn_33) (ef_29_1 a1 p3) ?_
  intro p e s m below meth c s₁ X hx hby hml hZ hown hnm hret hlk eT
  have hown : s.vm.findClass "java/lang/StringUTF16" = some m.cls := hown
  have N := Fr.nil n0
  have K := Keep.refl h0 [a1]
  refine own_getS X hx hby hZ hown (host := "") (Or.inl (hw _ (List.mem_of_getElem? (i := 128) rfl))) Via.refl eT S__assertionsDisabled d29_0 3 rfl ?_
  intro T0 X eT
  have c3 : ¬ (1 : Int32) = (0 : Int32) := by decide
  refine own_if_ne X hx hby d29_3 28 6 (by decide) rfl (fun _ => ?_) (fun q => absurd q c3)
  refine own_iloadN X hx hby (1 : Int32) d29_28 rfl 29 rfl ?_
  refine own_iconst X hx hby (1 : Int32) d29_29 rfl 30 rfl ?_
  refine own_ishl X hx hby d29_30 31 rfl ?_
  refine own_top (v' := (.int (2 : Int32))) (congrArg Value.int (by decide)) ?_
  refine own_istoreN X hx hby d29_31 rfl (l' := #[.val (.ref a1), .val (.int (2 : Int32)), .val (.int p3)]) rfl 32 rfl ?_
  refine own_aloadN X hx hby (.ref a1) d29_32 rfl rfl 33 rfl ?_
  refine own_iloadN X hx hby (2 : Int32) d29_33 rfl 34 rfl ?_
  refine own_iinc X hx hby d29_34 (x := (2 : Int32)) rfl (by decide) (l' := #[.val (.ref a1), .val (.int (3 : Int32)), .val (.int p3)]) rfl 37 rfl ?_
  refine own_iloadN X hx hby p3 d29_37 rfl 38 rfl ?_
  refine own_getS X hx hby hZ hown (host := "") (Or.inl (hw _ (List.mem_of_getElem? (i := 129) rfl))) Via.refl eT S_HI_BYTE_SHIFT d29_38 41 rfl ?_
  intro T38 X eT
  refine own_ishr X hx hby d29_41 42 rfl ?_
  refine own_i2b X hx hby d29_42 43 rfl ?_
  refine own_bastore X hx hby hZ eT A_a1 hb0 d29_43 44 rfl ?_
  intro T43 h43 X eT W A
  have E_a1 := E_a1.wr W
  have S__assertionsDisabled := S__assertionsDisabled.wr W
  have S_HI_BYTE_SHIFT := S_HI_BYTE_SHIFT.wr W
  have S_LO_BYTE_SHIFT := S_LO_BYTE_SHIFT.wr W
  have A_a1 : Afi Z h43 a1 .byte n1 (updI ar_a1 2 (nar .byte ((p3 >>> ((0 : Int32) &&& 31)).toInt8.toInt32))) := A
  have N := Fr.snoc X N g_a1
  have K := K.wr W (Or.inl (List.mem_of_getElem? (i := 0) rfl))
  have Zs := Nat.le_trans Zs (Keep.of_wr W).1
  refine own_aloadN X hx hby (.ref a1) d29_44 rfl rfl 45 rfl ?_
  refine own_iloadN X hx hby (3 : Int32) d29_45 rfl 46 rfl ?_
  refine own_iloadN X hx hby p3 d29_46 rfl 47 rfl ?_
  refine own_getS X hx hby hZ hown (host := "") (Or.inl (hw _ (List.mem_of_getElem? (i := 130) rfl))) Via.refl eT S_LO_BYTE_SHIFT d29_47 50 rfl ?_
  intro T47 X eT
  refine own_ishr X hx hby d29_50 51 rfl ?_
  refine own_i2b X hx hby d29_51 52 rfl ?_
  refine own_bastore X hx hby hZ eT A_a1 hb1 d29_52 53 rfl ?_
  intro T52 h52 X eT W A
  have E_a1 := E_a1.wr W
  have S__assertionsDisabled := S__assertionsDisabled.wr W
  have S_HI_BYTE_SHIFT := S_HI_BYTE_SHIFT.wr W
  have S_LO_BYTE_SHIFT := S_LO_BYTE_SHIFT.wr W
  have A_a1 : Afi Z h52 a1 .byte n1 (updI (updI ar_a1 2 (nar .byte ((p3 >>> ((0 : Int32) &&& 31)).toInt8.toInt32))) 3 (nar .byte ((p3 >>> ((8 : Int32) &&& 31)).toInt8.toInt32))) := A
  have N := Fr.snoc X N g_a1
  have K := K.wr W (Or.inl (List.mem_of_getElem? (i := 0) rfl))
  have Zs := Nat.le_trans Zs (Keep.of_wr W).1
  refine own_ret X hx hby hret hlk d29_53 (by decide) (by decide) ?_
  rw [eT]
  exact ⟨rfl, N, K, A_a1, E_a1⟩
theorem ef_29_2 (a1 : Addr) (p3 : Int32) (m : MethodId) : entryFrame m #[(.ref a1), (.int (2 : Int32)), (.int p3)] 3 = mkF m 0 #[.val (.ref a1), .val (.int (2 : Int32)), .val (.int p3)] [] := by first | (simp [entryFrame, mkF, argsToLocals, Value.category]; done) | rfl
def Q29_2 (Z : State) (a1 : Addr) (p3 : Int32) (ar_a1 : Nat → Int32) (n1 : Nat) (h0 : Heap) (n0 : Nat) (v : Option Value) (h : Heap) (L : List Loc) : Prop := v = none ∧ Fr n0 L ∧ Keep h0 h [a1] ∧ Afi Z h a1 .byte n1 (updI (updI ar_a1 4 (nar .byte ((p3 >>> ((0 : Int32) &&& 31)).toInt8.toInt32))) 5 (nar .byte ((p3 >>> ((8 : Int32) &&& 31)).toInt8.toInt32))) ∧ Exa Z h a1 "[B"
set_option maxRecDepth 65536 in
set_option maxHeartbeats 40000000 in
theorem rm29_2 (l : Launch) (Z : State) (a0 : Array Value) (hw : ∀ d ∈ tables_1, d.before a0 Z = true) (a1 : Addr) (p3 : Int32) (ar_a1 : Nat → Int32) (n1 : Nat) (h0 : Heap) (n0 : Nat) (Zs : n0 ≤ h0.size) (hb0 : ¬ ((4 : Int32) < 0 ∨ n1 ≤ Int32.toNatClampNeg (4 : Int32))) (hb1 : ¬ ((5 : Int32) < 0 ∨ n1 ≤ Int32.toNatClampNeg (5 : Int32))) (A_a1 : Afi Z h0 a1 .byte n1 ar_a1) (E_a1 : Exa Z h0 a1 "[B") (g_a1 : n0 ≤ a1) (S__assertionsDisabled : Sta Z h0 "java/lang/StringUTF16" "$assertionsDisabled" "Z" (.int (1 : Int32))) (S_HI_BYTE_SHIFT : Sta Z h0 "java/lang/StringUTF16" "HI_BYTE_SHIFT" "I" (.int (0 : Int32))) (S_LO_BYTE_SHIFT : Sta Z h0 "java/lang/StringUTF16" "LO_BYTE_SHIFT" "I" (.int (8 : Int32))) :
    Met1 l Z (⟨"java/lang/StringUTF16", "putChar", "([BII)V"⟩ : MethodName) jdk_52_method_4_code 3 none ({ frames := 0, cells := 0, slots := 0, locals := 0 } : Room) #[(.ref a1), (.int (2 : Int32)), (.int p3)] h0 (Q29_2 Z a1 p3 ar_a1 n1 h0 n0) := by
  refine own_met_of (plainFor_of_name pn_33) (ef_29_2 a1 p3) ?_
  intro p e s m below meth c s₁ X hx hby hml hZ hown hnm hret hlk eT
  have hown : s.vm.findClass "java/lang/StringUTF16" = some m.cls := hown
  have N := Fr.nil n0
  have K := Keep.refl h0 [a1]
  refine own_getS X hx hby hZ hown (host := "") (Or.inl (hw _ (List.mem_of_getElem? (i := 128) rfl))) Via.refl eT S__assertionsDisabled d29_0 3 rfl ?_
  intro T0 X eT
  have c3 : ¬ (1 : Int32) = (0 : Int32) := by decide
  refine own_if_ne X hx hby d29_3 28 6 (by decide) rfl (fun _ => ?_) (fun q => absurd q c3)
  refine own_iloadN X hx hby (2 : Int32) d29_28 rfl 29 rfl ?_
  refine own_iconst X hx hby (1 : Int32) d29_29 rfl 30 rfl ?_
  refine own_ishl X hx hby d29_30 31 rfl ?_
  refine own_top (v' := (.int (4 : Int32))) (congrArg Value.int (by decide)) ?_
  refine own_istoreN X hx hby d29_31 rfl (l' := #[.val (.ref a1), .val (.int (4 : Int32)), .val (.int p3)]) rfl 32 rfl ?_
  refine own_aloadN X hx hby (.ref a1) d29_32 rfl rfl 33 rfl ?_
  refine own_iloadN X hx hby (4 : Int32) d29_33 rfl 34 rfl ?_
  refine own_iinc X hx hby d29_34 (x := (4 : Int32)) rfl (by decide) (l' := #[.val (.ref a1), .val (.int (5 : Int32)), .val (.int p3)]) rfl 37 rfl ?_
  refine own_iloadN X hx hby p3 d29_37 rfl 38 rfl ?_
  refine own_getS X hx hby hZ hown (host := "") (Or.inl (hw _ (List.mem_of_getElem? (i := 129) rfl))) Via.refl eT S_HI_BYTE_SHIFT d29_38 41 rfl ?_
  intro T38 X eT
  refine own_ishr X hx hby d29_41 42 rfl ?_
  refine own_i2b X hx hby d29_42 43 rfl ?_
  refine own_bastore X hx hby hZ eT A_a1 hb0 d29_43 44 rfl ?_
  intro T43 h43 X eT W A
  have E_a1 := E_a1.wr W
  have S__assertionsDisabled := S__assertionsDisabled.wr W
  have S_HI_BYTE_SHIFT := S_HI_BYTE_SHIFT.wr W
  have S_LO_BYTE_SHIFT := S_LO_BYTE_SHIFT.wr W
  have A_a1 : Afi Z h43 a1 .byte n1 (updI ar_a1 4 (nar .byte ((p3 >>> ((0 : Int32) &&& 31)).toInt8.toInt32))) := A
  have N := Fr.snoc X N g_a1
  have K := K.wr W (Or.inl (List.mem_of_getElem? (i := 0) rfl))
  have Zs := Nat.le_trans Zs (Keep.of_wr W).1
  refine own_aloadN X hx hby (.ref a1) d29_44 rfl rfl 45 rfl ?_
  refine own_iloadN X hx hby (5 : Int32) d29_45 rfl 46 rfl ?_
  refine own_iloadN X hx hby p3 d29_46 rfl 47 rfl ?_
  refine own_getS X hx hby hZ hown (host := "") (Or.inl (hw _ (List.mem_of_getElem? (i := 130) rfl))) Via.refl eT S_LO_BYTE_SHIFT d29_47 50 rfl ?_
  intro T47 X eT
  refine own_ishr X hx hby d29_50 51 rfl ?_
  refine own_i2b X hx hby d29_51 52 rfl ?_
  refine own_bastore X hx hby hZ eT A_a1 hb1 d29_52 53 rfl ?_
  intro T52 h52 X eT W A
  have E_a1 := E_a1.wr W
  have S__assertionsDisabled := S__assertionsDisabled.wr W
  have S_HI_BYTE_SHIFT := S_HI_BYTE_SHIFT.wr W
  have S_LO_BYTE_SHIFT := S_LO_BYTE_SHIFT.wr W
  have A_a1 : Afi Z h52 a1 .byte n1 (updI (updI ar_a1 4 (nar .byte ((p3 >>> ((0 : Int32) &&& 31)).toInt8.toInt32))) 5 (nar .byte ((p3 >>> ((8 : Int32) &&& 31)).toInt8.toInt32))) := A
  have N := Fr.snoc X N g_a1
  have K := K.wr W (Or.inl (List.mem_of_getElem? (i := 0) rfl))
  have Zs := Nat.le_trans Zs (Keep.of_wr W).1
  refine own_ret X hx hby hret hlk d29_53 (by decide) (by decide) ?_
  rw [eT]
  exact ⟨rfl, N, K, A_a1, E_a1⟩
theorem ef_29_3 (a1 : Addr) (p3 : Int32) (m : MethodId) : entryFrame m #[(.ref a1), (.int (3 : Int32)), (.int p3)] 3 = mkF m 0 #[.val (.ref a1), .val (.int (3 : Int32)), .val (.int p3)] [] := by first | (simp [entryFrame, mkF, argsToLocals, Value.category]; done) | rfl
def Q29_3 (Z : State) (a1 : Addr) (p3 : Int32) (ar_a1 : Nat → Int32) (n1 : Nat) (h0 : Heap) (n0 : Nat) (v : Option Value) (h : Heap) (L : List Loc) : Prop := v = none ∧ Fr n0 L ∧ Keep h0 h [a1] ∧ Afi Z h a1 .byte n1 (updI (updI ar_a1 6 (nar .byte ((p3 >>> ((0 : Int32) &&& 31)).toInt8.toInt32))) 7 (nar .byte ((p3 >>> ((8 : Int32) &&& 31)).toInt8.toInt32))) ∧ Exa Z h a1 "[B"
set_option maxRecDepth 65536 in
set_option maxHeartbeats 40000000 in
theorem rm29_3 (l : Launch) (Z : State) (a0 : Array Value) (hw : ∀ d ∈ tables_1, d.before a0 Z = true) (a1 : Addr) (p3 : Int32) (ar_a1 : Nat → Int32) (n1 : Nat) (h0 : Heap) (n0 : Nat) (Zs : n0 ≤ h0.size) (hb0 : ¬ ((6 : Int32) < 0 ∨ n1 ≤ Int32.toNatClampNeg (6 : Int32))) (hb1 : ¬ ((7 : Int32) < 0 ∨ n1 ≤ Int32.toNatClampNeg (7 : Int32))) (A_a1 : Afi Z h0 a1 .byte n1 ar_a1) (E_a1 : Exa Z h0 a1 "[B") (g_a1 : n0 ≤ a1) (S__assertionsDisabled : Sta Z h0 "java/lang/StringUTF16" "$assertionsDisabled" "Z" (.int (1 : Int32))) (S_HI_BYTE_SHIFT : Sta Z h0 "java/lang/StringUTF16" "HI_BYTE_SHIFT" "I" (.int (0 : Int32))) (S_LO_BYTE_SHIFT : Sta Z h0 "java/lang/StringUTF16" "LO_BYTE_SHIFT" "I" (.int (8 : Int32))) :
    Met1 l Z (⟨"java/lang/StringUTF16", "putChar", "([BII)V"⟩ : MethodName) jdk_52_method_4_code 3 none ({ frames := 0, cells := 0, slots := 0, locals := 0 } : Room) #[(.ref a1), (.int (3 : Int32)), (.int p3)] h0 (Q29_3 Z a1 p3 ar_a1 n1 h0 n0) := by
  refine own_met_of (plainFor_of_name pn_33) (ef_29_3 a1 p3) ?_
  intro p e s m below meth c s₁ X hx hby hml hZ hown hnm hret hlk eT
  have hown : s.vm.findClass "java/lang/StringUTF16" = some m.cls := hown
  have N := Fr.nil n0
  have K := Keep.refl h0 [a1]
  refine own_getS X hx hby hZ hown (host := "") (Or.inl (hw _ (List.mem_of_getElem? (i := 128) rfl))) Via.refl eT S__assertionsDisabled d29_0 3 rfl ?_
  intro T0 X eT
  have c3 : ¬ (1 : Int32) = (0 : Int32) := by decide
  refine own_if_ne X hx hby d29_3 28 6 (by decide) rfl (fun _ => ?_) (fun q => absurd q c3)
  refine own_iloadN X hx hby (3 : Int32) d29_28 rfl 29 rfl ?_
  refine own_iconst X hx hby (1 : Int32) d29_29 rfl 30 rfl ?_
  refine own_ishl X hx hby d29_30 31 rfl ?_
  refine own_top (v' := (.int (6 : Int32))) (congrArg Value.int (by decide)) ?_
  refine own_istoreN X hx hby d29_31 rfl (l' := #[.val (.ref a1), .val (.int (6 : Int32)), .val (.int p3)]) rfl 32 rfl ?_
  refine own_aloadN X hx hby (.ref a1) d29_32 rfl rfl 33 rfl ?_
  refine own_iloadN X hx hby (6 : Int32) d29_33 rfl 34 rfl ?_
  refine own_iinc X hx hby d29_34 (x := (6 : Int32)) rfl (by decide) (l' := #[.val (.ref a1), .val (.int (7 : Int32)), .val (.int p3)]) rfl 37 rfl ?_
  refine own_iloadN X hx hby p3 d29_37 rfl 38 rfl ?_
  refine own_getS X hx hby hZ hown (host := "") (Or.inl (hw _ (List.mem_of_getElem? (i := 129) rfl))) Via.refl eT S_HI_BYTE_SHIFT d29_38 41 rfl ?_
  intro T38 X eT
  refine own_ishr X hx hby d29_41 42 rfl ?_
  refine own_i2b X hx hby d29_42 43 rfl ?_
  refine own_bastore X hx hby hZ eT A_a1 hb0 d29_43 44 rfl ?_
  intro T43 h43 X eT W A
  have E_a1 := E_a1.wr W
  have S__assertionsDisabled := S__assertionsDisabled.wr W
  have S_HI_BYTE_SHIFT := S_HI_BYTE_SHIFT.wr W
  have S_LO_BYTE_SHIFT := S_LO_BYTE_SHIFT.wr W
  have A_a1 : Afi Z h43 a1 .byte n1 (updI ar_a1 6 (nar .byte ((p3 >>> ((0 : Int32) &&& 31)).toInt8.toInt32))) := A
  have N := Fr.snoc X N g_a1
  have K := K.wr W (Or.inl (List.mem_of_getElem? (i := 0) rfl))
  have Zs := Nat.le_trans Zs (Keep.of_wr W).1
  refine own_aloadN X hx hby (.ref a1) d29_44 rfl rfl 45 rfl ?_
  refine own_iloadN X hx hby (7 : Int32) d29_45 rfl 46 rfl ?_
  refine own_iloadN X hx hby p3 d29_46 rfl 47 rfl ?_
  refine own_getS X hx hby hZ hown (host := "") (Or.inl (hw _ (List.mem_of_getElem? (i := 130) rfl))) Via.refl eT S_LO_BYTE_SHIFT d29_47 50 rfl ?_
  intro T47 X eT
  refine own_ishr X hx hby d29_50 51 rfl ?_
  refine own_i2b X hx hby d29_51 52 rfl ?_
  refine own_bastore X hx hby hZ eT A_a1 hb1 d29_52 53 rfl ?_
  intro T52 h52 X eT W A
  have E_a1 := E_a1.wr W
  have S__assertionsDisabled := S__assertionsDisabled.wr W
  have S_HI_BYTE_SHIFT := S_HI_BYTE_SHIFT.wr W
  have S_LO_BYTE_SHIFT := S_LO_BYTE_SHIFT.wr W
  have A_a1 : Afi Z h52 a1 .byte n1 (updI (updI ar_a1 6 (nar .byte ((p3 >>> ((0 : Int32) &&& 31)).toInt8.toInt32))) 7 (nar .byte ((p3 >>> ((8 : Int32) &&& 31)).toInt8.toInt32))) := A
  have N := Fr.snoc X N g_a1
  have K := K.wr W (Or.inl (List.mem_of_getElem? (i := 0) rfl))
  have Zs := Nat.le_trans Zs (Keep.of_wr W).1
  refine own_ret X hx hby hret hlk d29_53 (by decide) (by decide) ?_
  rw [eT]
  exact ⟨rfl, N, K, A_a1, E_a1⟩
theorem ef_26_1 (a1 : Addr) (m : MethodId) : entryFrame m #[(.ref a1), (.int (0 : Int32)), (.int (1 : Int32))] 5 = mkF m 0 #[.val (.ref a1), .val (.int (0 : Int32)), .val (.int (1 : Int32)), .unset, .unset] [] := by first | (simp [entryFrame, mkF, argsToLocals, Value.category]; done) | rfl
def Q26_1 (Z : State) (a1 : Addr) (ar_a1 : Nat → Int32) (h0 : Heap) (n0 : Nat) (v : Option Value) (h : Heap) (L : List Loc) : Prop := ∃ (b1b4 : Addr), v = some (.ref b1b4) ∧ Fr n0 L ∧ Keep h0 h [] ∧ h0.size ≤ b1b4 ∧ Afi Z h b1b4 .byte 2 (updI (updI (fun _ => (0 : Int32)) 0 (nar .byte (((ar_a1 0) >>> ((0 : Int32) &&& 31)).toInt8.toInt32))) 1 (nar .byte (((ar_a1 0) >>> ((8 : Int32) &&& 31)).toInt8.toInt32))) ∧ Exa Z h b1b4 "[B"
set_option maxRecDepth 65536 in
set_option maxHeartbeats 40000000 in
theorem rm26_1 (l : Launch) (Z : State) (a0 : Array Value) (hw : ∀ d ∈ tables_1, d.before a0 Z = true) (a1 : Addr) (ar_a1 : Nat → Int32) (h0 : Heap) (n0 : Nat) (Zs : n0 ≤ h0.size) (A_a1 : Afi Z h0 a1 .char 1 ar_a1) (E_a1 : Exa Z h0 a1 "[C") (S__assertionsDisabled : Sta Z h0 "java/lang/StringUTF16" "$assertionsDisabled" "Z" (.int (1 : Int32))) (S_HI_BYTE_SHIFT : Sta Z h0 "java/lang/StringUTF16" "HI_BYTE_SHIFT" "I" (.int (0 : Int32))) (S_LO_BYTE_SHIFT : Sta Z h0 "java/lang/StringUTF16" "LO_BYTE_SHIFT" "I" (.int (8 : Int32))) :
    Met1 l Z (⟨"java/lang/StringUTF16", "toBytes", "([CII)[B"⟩ : MethodName) jdk_52_method_14_code 5 (some (.array .byte)) ({ frames := 2, cells := 1, slots := 2, locals := 24 } : Room) #[(.ref a1), (.int (0 : Int32)), (.int (1 : Int32))] h0 (Q26_1 Z a1 ar_a1 h0 n0) := by
  refine own_met_of (plainFor_of_name pn_33) (ef_26_1 a1) ?_
  intro p e s m below meth c s₁ X hx hby hml hZ hown hnm hret hlk eT
  have hown : s.vm.findClass "java/lang/StringUTF16" = some m.cls := hown
  have N := Fr.nil n0
  have K := Keep.refl h0 []
  refine own_iloadN X hx hby (1 : Int32) d26_0 rfl 1 rfl ?_
  refine own_callS X hx hby hZ (st := []) [(.int (1 : Int32))] rfl hown (hw _ (List.mem_of_getElem? (i := 118) rfl)) (hw _ (List.mem_of_getElem? (i := 119) rfl)) (hw _ (List.mem_of_getElem? (i := 40) rfl)) (hw _ (List.mem_of_getElem? (i := 120) rfl)) (by decide) d26_1 (rm27_1 l Z a0 hw  h0 n0 Zs ) eT pd_8 rfl (by rw [hml]; rfl) (by decide) 0 rfl (by decide) (by decide) (by decide) 4 rfl ?_
  intro T1 L9 v9 X hQ
  obtain ⟨h1, eT⟩ : ∃ z, T1.heap = z := ⟨_, rfl⟩
  rw [eT] at hQ
  have lt_a1 := A_a1.lt
  obtain ⟨b1b4, rfl, N9, Kc, hs_b1b4, A_b1b4, E_b1b4⟩ := hQ
  have g_b1b4 : n0 ≤ b1b4 := Nat.le_trans Zs hs_b1b4
  have sz_b1b4 : h0.size ≤ b1b4 := Nat.le_trans K.1 hs_b1b4
  have ne_a1_b1b4 : a1 ≠ b1b4 := Nat.ne_of_lt (Nat.lt_of_lt_of_le lt_a1 hs_b1b4)
  have A_a1 := A_a1.keep Kc nin0
  have E_a1 := E_a1.keep Kc
  have K := K.trans Kc all0
  have Zs := Nat.le_trans Zs Kc.1
  have N := Fr.app N N9
  show Go p e below _ T1 (mkF m 4 #[.val (.ref a1), .val (.int (0 : Int32)), .val (.int (1 : Int32)), .unset, .unset] [(.ref b1b4)])
  refine own_astoreN X hx hby d26_4 rfl (l' := #[.val (.ref a1), .val (.int (0 : Int32)), .val (.int (1 : Int32)), .val (.ref b1b4), .unset]) rfl 5 rfl ?_
  refine own_iconst X hx hby (0 : Int32) d26_5 rfl 6 rfl ?_
  refine own_istore X hx hby d26_6 rfl (l' := #[.val (.ref a1), .val (.int (0 : Int32)), .val (.int (1 : Int32)), .val (.ref b1b4), .val (.int (0 : Int32))]) rfl 8 rfl ?_
  refine own_iload X hx hby (0 : Int32) d26_8 rfl 10 rfl ?_
  refine own_iloadN X hx hby (1 : Int32) d26_10 rfl 11 rfl ?_
  have c11 : (0 : Int32) < (1 : Int32) := by decide
  refine own_icmp_ge X hx hby d26_11 32 14 (by decide) rfl (fun q => absurd c11 q) (fun _ => ?_)
  refine own_aloadN X hx hby (.ref b1b4) d26_14 rfl rfl 15 rfl ?_
  refine own_iload X hx hby (0 : Int32) d26_15 rfl 17 rfl ?_
  refine own_aloadN X hx hby (.ref a1) d26_17 rfl rfl 18 rfl ?_
  refine own_iloadN X hx hby (0 : Int32) d26_18 rfl 19 rfl ?_
  refine own_caload X hx hby hZ (ar_a1 0) eT A_a1 (by decide) rfl d26_19 20 rfl ?_
  refine own_callS X hx hby hZ (st := []) [(.ref b1b4), (.int (0 : Int32)), (.int (ar_a1 0))] rfl hown (hw _ (List.mem_of_getElem? (i := 125) rfl)) (hw _ (List.mem_of_getElem? (i := 126) rfl)) (hw _ (List.mem_of_getElem? (i := 40) rfl)) (hw _ (List.mem_of_getElem? (i := 127) rfl)) (by decide) d26_20 (rm29_0 l Z a0 hw b1b4 (ar_a1 0) (fun _ => (0 : Int32)) 2 h1 n0 Zs (by decide) (by decide) A_b1b4 E_b1b4 g_b1b4 (S__assertionsDisabled.ext (own_ext0 K)) (S_HI_BYTE_SHIFT.ext (own_ext0 K)) (S_LO_BYTE_SHIFT.ext (own_ext0 K))) eT pd_17 rfl (by rw [hml]; rfl) (by decide) 0 rfl (by decide) (by decide) (by decide) 23 rfl ?_
  intro T20 L9 v9 X hQ
  obtain ⟨h20, eT⟩ : ∃ z, T20.heap = z := ⟨_, rfl⟩
  rw [eT] at hQ
  obtain ⟨rfl, N9, Kc, A_b1b4, E_b1b4⟩ := hQ
  have A_a1 := A_a1.keep Kc (ninS ne_a1_b1b4 nin0)
  have E_a1 := E_a1.keep Kc
  have K := K.trans Kc (allS (Or.inr sz_b1b4) all0)
  have Zs := Nat.le_trans Zs Kc.1
  have N := Fr.app N N9
  show Go p e below _ T20 (mkF m 23 #[.val (.ref a1), .val (.int (0 : Int32)), .val (.int (1 : Int32)), .val (.ref b1b4), .val (.int (0 : Int32))] [])
  refine own_iinc X hx hby d26_23 (x := (0 : Int32)) rfl (by decide) (l' := #[.val (.ref a1), .val (.int (1 : Int32)), .val (.int (1 : Int32)), .val (.ref b1b4), .val (.int (0 : Int32))]) rfl 26 rfl ?_
  refine own_iinc X hx hby d26_26 (x := (0 : Int32)) rfl (by decide) (l' := #[.val (.ref a1), .val (.int (1 : Int32)), .val (.int (1 : Int32)), .val (.ref b1b4), .val (.int (1 : Int32))]) rfl 29 rfl ?_
  refine own_goto X hx hby d26_29 8 (by decide) ?_
  refine own_iload X hx hby (1 : Int32) d26_8 rfl 10 rfl ?_
  refine own_iloadN X hx hby (1 : Int32) d26_10 rfl 11 rfl ?_
  have c11_2 : ¬ (1 : Int32) < (1 : Int32) := by decide
  refine own_icmp_ge X hx hby d26_11 32 14 (by decide) rfl (fun _ => ?_) (fun q => absurd q c11_2)
  refine own_aloadN X hx hby (.ref b1b4) d26_32 rfl rfl 33 rfl ?_
  refine own_retA X hx hby hret hlk rfl rfl rfl d26_33 (by decide) (by decide) ?_
  rw [eT]
  exact ⟨b1b4, rfl, N, K, sz_b1b4, A_b1b4, E_b1b4⟩
theorem ef_26_2 (a1 : Addr) (m : MethodId) : entryFrame m #[(.ref a1), (.int (0 : Int32)), (.int (2 : Int32))] 5 = mkF m 0 #[.val (.ref a1), .val (.int (0 : Int32)), .val (.int (2 : Int32)), .unset, .unset] [] := by first | (simp [entryFrame, mkF, argsToLocals, Value.category]; done) | rfl
def Q26_2 (Z : State) (a1 : Addr) (ar_a1 : Nat → Int32) (h0 : Heap) (n0 : Nat) (v : Option Value) (h : Heap) (L : List Loc) : Prop := ∃ (b1b4 : Addr), v = some (.ref b1b4) ∧ Fr n0 L ∧ Keep h0 h [] ∧ h0.size ≤ b1b4 ∧ Afi Z h b1b4 .byte 4 (updI (updI (updI (updI (fun _ => (0 : Int32)) 0 (nar .byte (((ar_a1 0) >>> ((0 : Int32) &&& 31)).toInt8.toInt32))) 1 (nar .byte (((ar_a1 0) >>> ((8 : Int32) &&& 31)).toInt8.toInt32))) 2 (nar .byte (((ar_a1 1) >>> ((0 : Int32) &&& 31)).toInt8.toInt32))) 3 (nar .byte (((ar_a1 1) >>> ((8 : Int32) &&& 31)).toInt8.toInt32))) ∧ Exa Z h b1b4 "[B"
set_option maxRecDepth 65536 in
set_option maxHeartbeats 40000000 in
theorem rm26_2 (l : Launch) (Z : State) (a0 : Array Value) (hw : ∀ d ∈ tables_1, d.before a0 Z = true) (a1 : Addr) (ar_a1 : Nat → Int32) (h0 : Heap) (n0 : Nat) (Zs : n0 ≤ h0.size) (A_a1 : Afi Z h0 a1 .char 2 ar_a1) (E_a1 : Exa Z h0 a1 "[C") (S__assertionsDisabled : Sta Z h0 "java/lang/StringUTF16" "$assertionsDisabled" "Z" (.int (1 : Int32))) (S_HI_BYTE_SHIFT : Sta Z h0 "java/lang/StringUTF16" "HI_BYTE_SHIFT" "I" (.int (0 : Int32))) (S_LO_BYTE_SHIFT : Sta Z h0 "java/lang/StringUTF16" "LO_BYTE_SHIFT" "I" (.int (8 : Int32))) :
    Met1 l Z (⟨"java/lang/StringUTF16", "toBytes", "([CII)[B"⟩ : MethodName) jdk_52_method_14_code 5 (some (.array .byte)) ({ frames := 2, cells := 1, slots := 4, locals := 24 } : Room) #[(.ref a1), (.int (0 : Int32)), (.int (2 : Int32))] h0 (Q26_2 Z a1 ar_a1 h0 n0) := by
  refine own_met_of (plainFor_of_name pn_33) (ef_26_2 a1) ?_
  intro p e s m below meth c s₁ X hx hby hml hZ hown hnm hret hlk eT
  have hown : s.vm.findClass "java/lang/StringUTF16" = some m.cls := hown
  have N := Fr.nil n0
  have K := Keep.refl h0 []
  refine own_iloadN X hx hby (2 : Int32) d26_0 rfl 1 rfl ?_
  refine own_callS X hx hby hZ (st := []) [(.int (2 : Int32))] rfl hown (hw _ (List.mem_of_getElem? (i := 118) rfl)) (hw _ (List.mem_of_getElem? (i := 119) rfl)) (hw _ (List.mem_of_getElem? (i := 40) rfl)) (hw _ (List.mem_of_getElem? (i := 120) rfl)) (by decide) d26_1 (rm27_2 l Z a0 hw  h0 n0 Zs ) eT pd_8 rfl (by rw [hml]; rfl) (by decide) 0 rfl (by decide) (by decide) (by decide) 4 rfl ?_
  intro T1 L9 v9 X hQ
  obtain ⟨h1, eT⟩ : ∃ z, T1.heap = z := ⟨_, rfl⟩
  rw [eT] at hQ
  have lt_a1 := A_a1.lt
  obtain ⟨b1b4, rfl, N9, Kc, hs_b1b4, A_b1b4, E_b1b4⟩ := hQ
  have g_b1b4 : n0 ≤ b1b4 := Nat.le_trans Zs hs_b1b4
  have sz_b1b4 : h0.size ≤ b1b4 := Nat.le_trans K.1 hs_b1b4
  have ne_a1_b1b4 : a1 ≠ b1b4 := Nat.ne_of_lt (Nat.lt_of_lt_of_le lt_a1 hs_b1b4)
  have A_a1 := A_a1.keep Kc nin0
  have E_a1 := E_a1.keep Kc
  have K := K.trans Kc all0
  have Zs := Nat.le_trans Zs Kc.1
  have N := Fr.app N N9
  show Go p e below _ T1 (mkF m 4 #[.val (.ref a1), .val (.int (0 : Int32)), .val (.int (2 : Int32)), .unset, .unset] [(.ref b1b4)])
  refine own_astoreN X hx hby d26_4 rfl (l' := #[.val (.ref a1), .val (.int (0 : Int32)), .val (.int (2 : Int32)), .val (.ref b1b4), .unset]) rfl 5 rfl ?_
  refine own_iconst X hx hby (0 : Int32) d26_5 rfl 6 rfl ?_
  refine own_istore X hx hby d26_6 rfl (l' := #[.val (.ref a1), .val (.int (0 : Int32)), .val (.int (2 : Int32)), .val (.ref b1b4), .val (.int (0 : Int32))]) rfl 8 rfl ?_
  refine own_iload X hx hby (0 : Int32) d26_8 rfl 10 rfl ?_
  refine own_iloadN X hx hby (2 : Int32) d26_10 rfl 11 rfl ?_
  have c11 : (0 : Int32) < (2 : Int32) := by decide
  refine own_icmp_ge X hx hby d26_11 32 14 (by decide) rfl (fun q => absurd c11 q) (fun _ => ?_)
  refine own_aloadN X hx hby (.ref b1b4) d26_14 rfl rfl 15 rfl ?_
  refine own_iload X hx hby (0 : Int32) d26_15 rfl 17 rfl ?_
  refine own_aloadN X hx hby (.ref a1) d26_17 rfl rfl 18 rfl ?_
  refine own_iloadN X hx hby (0 : Int32) d26_18 rfl 19 rfl ?_
  refine own_caload X hx hby hZ (ar_a1 0) eT A_a1 (by decide) rfl d26_19 20 rfl ?_
  refine own_callS X hx hby hZ (st := []) [(.ref b1b4), (.int (0 : Int32)), (.int (ar_a1 0))] rfl hown (hw _ (List.mem_of_getElem? (i := 125) rfl)) (hw _ (List.mem_of_getElem? (i := 126) rfl)) (hw _ (List.mem_of_getElem? (i := 40) rfl)) (hw _ (List.mem_of_getElem? (i := 127) rfl)) (by decide) d26_20 (rm29_0 l Z a0 hw b1b4 (ar_a1 0) (fun _ => (0 : Int32)) 4 h1 n0 Zs (by decide) (by decide) A_b1b4 E_b1b4 g_b1b4 (S__assertionsDisabled.ext (own_ext0 K)) (S_HI_BYTE_SHIFT.ext (own_ext0 K)) (S_LO_BYTE_SHIFT.ext (own_ext0 K))) eT pd_17 rfl (by rw [hml]; rfl) (by decide) 0 rfl (by decide) (by decide) (by decide) 23 rfl ?_
  intro T20 L9 v9 X hQ
  obtain ⟨h20, eT⟩ : ∃ z, T20.heap = z := ⟨_, rfl⟩
  rw [eT] at hQ
  obtain ⟨rfl, N9, Kc, A_b1b4, E_b1b4⟩ := hQ
  have A_a1 := A_a1.keep Kc (ninS ne_a1_b1b4 nin0)
  have E_a1 := E_a1.keep Kc
  have K := K.trans Kc (allS (Or.inr sz_b1b4) all0)
  have Zs := Nat.le_trans Zs Kc.1
  have N := Fr.app N N9
  show Go p e below _ T20 (mkF m 23 #[.val (.ref a1), .val (.int (0 : Int32)), .val (.int (2 : Int32)), .val (.ref b1b4), .val (.int (0 : Int32))] [])
  refine own_iinc X hx hby d26_23 (x := (0 : Int32)) rfl (by decide) (l' := #[.val (.ref a1), .val (.int (1 : Int32)), .val (.int (2 : Int32)), .val (.ref b1b4), .val (.int (0 : Int32))]) rfl 26 rfl ?_
  refine own_iinc X hx hby d26_26 (x := (0 : Int32)) rfl (by decide) (l' := #[.val (.ref a1), .val (.int (1 : Int32)), .val (.int (2 : Int32)), .val (.ref b1b4), .val (.int (1 : Int32))]) rfl 29 rfl ?_
  refine own_goto X hx hby d26_29 8 (by decide) ?_
  refine own_iload X hx hby (1 : Int32) d26_8 rfl 10 rfl ?_
  refine own_iloadN X hx hby (2 : Int32) d26_10 rfl 11 rfl ?_
  have c11_2 : (1 : Int32) < (2 : Int32) := by decide
  refine own_icmp_ge X hx hby d26_11 32 14 (by decide) rfl (fun q => absurd c11_2 q) (fun _ => ?_)
  refine own_aloadN X hx hby (.ref b1b4) d26_14 rfl rfl 15 rfl ?_
  refine own_iload X hx hby (1 : Int32) d26_15 rfl 17 rfl ?_
  refine own_aloadN X hx hby (.ref a1) d26_17 rfl rfl 18 rfl ?_
  refine own_iloadN X hx hby (1 : Int32) d26_18 rfl 19 rfl ?_
  refine own_caload X hx hby hZ (ar_a1 1) eT A_a1 (by decide) rfl d26_19 20 rfl ?_
  refine own_callS X hx hby hZ (st := []) [(.ref b1b4), (.int (1 : Int32)), (.int (ar_a1 1))] rfl hown (hw _ (List.mem_of_getElem? (i := 125) rfl)) (hw _ (List.mem_of_getElem? (i := 126) rfl)) (hw _ (List.mem_of_getElem? (i := 40) rfl)) (hw _ (List.mem_of_getElem? (i := 127) rfl)) (by decide) d26_20 (rm29_1 l Z a0 hw b1b4 (ar_a1 1) (updI (updI (fun _ => (0 : Int32)) 0 (nar .byte (((ar_a1 0) >>> ((0 : Int32) &&& 31)).toInt8.toInt32))) 1 (nar .byte (((ar_a1 0) >>> ((8 : Int32) &&& 31)).toInt8.toInt32))) 4 h20 n0 Zs (by decide) (by decide) A_b1b4 E_b1b4 g_b1b4 (S__assertionsDisabled.ext (own_ext0 K)) (S_HI_BYTE_SHIFT.ext (own_ext0 K)) (S_LO_BYTE_SHIFT.ext (own_ext0 K))) eT pd_17 rfl (by rw [hml]; rfl) (by decide) 0 rfl (by decide) (by decide) (by decide) 23 rfl ?_
  intro T20 L9 v9 X hQ
  obtain ⟨h20, eT⟩ : ∃ z, T20.heap = z := ⟨_, rfl⟩
  rw [eT] at hQ
  obtain ⟨rfl, N9, Kc, A_b1b4, E_b1b4⟩ := hQ
  have A_a1 := A_a1.keep Kc (ninS ne_a1_b1b4 nin0)
  have E_a1 := E_a1.keep Kc
  have K := K.trans Kc (allS (Or.inr sz_b1b4) all0)
  have Zs := Nat.le_trans Zs Kc.1
  have N := Fr.app N N9
  show Go p e below _ T20 (mkF m 23 #[.val (.ref a1), .val (.int (1 : Int32)), .val (.int (2 : Int32)), .val (.ref b1b4), .val (.int (1 : Int32))] [])
  refine own_iinc X hx hby d26_23 (x := (1 : Int32)) rfl (by decide) (l' := #[.val (.ref a1), .val (.int (2 : Int32)), .val (.int (2 : Int32)), .val (.ref b1b4), .val (.int (1 : Int32))]) rfl 26 rfl ?_
  refine own_iinc X hx hby d26_26 (x := (1 : Int32)) rfl (by decide) (l' := #[.val (.ref a1), .val (.int (2 : Int32)), .val (.int (2 : Int32)), .val (.ref b1b4), .val (.int (2 : Int32))]) rfl 29 rfl ?_
  refine own_goto X hx hby d26_29 8 (by decide) ?_
  refine own_iload X hx hby (2 : Int32) d26_8 rfl 10 rfl ?_
  refine own_iloadN X hx hby (2 : Int32) d26_10 rfl 11 rfl ?_
  have c11_3 : ¬ (2 : Int32) < (2 : Int32) := by decide
  refine own_icmp_ge X hx hby d26_11 32 14 (by decide) rfl (fun _ => ?_) (fun q => absurd q c11_3)
  refine own_aloadN X hx hby (.ref b1b4) d26_32 rfl rfl 33 rfl ?_
  refine own_retA X hx hby hret hlk rfl rfl rfl d26_33 (by decide) (by decide) ?_
  rw [eT]
  exact ⟨b1b4, rfl, N, K, sz_b1b4, A_b1b4, E_b1b4⟩
theorem ef_26_3 (a1 : Addr) (m : MethodId) : entryFrame m #[(.ref a1), (.int (0 : Int32)), (.int (3 : Int32))] 5 = mkF m 0 #[.val (.ref a1), .val (.int (0 : Int32)), .val (.int (3 : Int32)), .unset, .unset] [] := by first | (simp [entryFrame, mkF, argsToLocals, Value.category]; done) | rfl
def Q26_3 (Z : State) (a1 : Addr) (ar_a1 : Nat → Int32) (h0 : Heap) (n0 : Nat) (v : Option Value) (h : Heap) (L : List Loc) : Prop := ∃ (b1b4 : Addr), v = some (.ref b1b4) ∧ Fr n0 L ∧ Keep h0 h [] ∧ h0.size ≤ b1b4 ∧ Afi Z h b1b4 .byte 6 (updI (updI (updI (updI (updI (updI (fun _ => (0 : Int32)) 0 (nar .byte (((ar_a1 0) >>> ((0 : Int32) &&& 31)).toInt8.toInt32))) 1 (nar .byte (((ar_a1 0) >>> ((8 : Int32) &&& 31)).toInt8.toInt32))) 2 (nar .byte (((ar_a1 1) >>> ((0 : Int32) &&& 31)).toInt8.toInt32))) 3 (nar .byte (((ar_a1 1) >>> ((8 : Int32) &&& 31)).toInt8.toInt32))) 4 (nar .byte (((ar_a1 2) >>> ((0 : Int32) &&& 31)).toInt8.toInt32))) 5 (nar .byte (((ar_a1 2) >>> ((8 : Int32) &&& 31)).toInt8.toInt32))) ∧ Exa Z h b1b4 "[B"
set_option maxRecDepth 65536 in
set_option maxHeartbeats 40000000 in
theorem rm26_3 (l : Launch) (Z : State) (a0 : Array Value) (hw : ∀ d ∈ tables_1, d.before a0 Z = true) (a1 : Addr) (ar_a1 : Nat → Int32) (h0 : Heap) (n0 : Nat) (Zs : n0 ≤ h0.size) (A_a1 : Afi Z h0 a1 .char 3 ar_a1) (E_a1 : Exa Z h0 a1 "[C") (S__assertionsDisabled : Sta Z h0 "java/lang/StringUTF16" "$assertionsDisabled" "Z" (.int (1 : Int32))) (S_HI_BYTE_SHIFT : Sta Z h0 "java/lang/StringUTF16" "HI_BYTE_SHIFT" "I" (.int (0 : Int32))) (S_LO_BYTE_SHIFT : Sta Z h0 "java/lang/StringUTF16" "LO_BYTE_SHIFT" "I" (.int (8 : Int32))) :
    Met1 l Z (⟨"java/lang/StringUTF16", "toBytes", "([CII)[B"⟩ : MethodName) jdk_52_method_14_code 5 (some (.array .byte)) ({ frames := 2, cells := 1, slots := 6, locals := 24 } : Room) #[(.ref a1), (.int (0 : Int32)), (.int (3 : Int32))] h0 (Q26_3 Z a1 ar_a1 h0 n0) := by
  refine own_met_of (plainFor_of_name pn_33) (ef_26_3 a1) ?_
  intro p e s m below meth c s₁ X hx hby hml hZ hown hnm hret hlk eT
  have hown : s.vm.findClass "java/lang/StringUTF16" = some m.cls := hown
  have N := Fr.nil n0
  have K := Keep.refl h0 []
  refine own_iloadN X hx hby (3 : Int32) d26_0 rfl 1 rfl ?_
  refine own_callS X hx hby hZ (st := []) [(.int (3 : Int32))] rfl hown (hw _ (List.mem_of_getElem? (i := 118) rfl)) (hw _ (List.mem_of_getElem? (i := 119) rfl)) (hw _ (List.mem_of_getElem? (i := 40) rfl)) (hw _ (List.mem_of_getElem? (i := 120) rfl)) (by decide) d26_1 (rm27_3 l Z a0 hw  h0 n0 Zs ) eT pd_8 rfl (by rw [hml]; rfl) (by decide) 0 rfl (by decide) (by decide) (by decide) 4 rfl ?_
  intro T1 L9 v9 X hQ
  obtain ⟨h1, eT⟩ : ∃ z, T1.heap = z := ⟨_, rfl⟩
  rw [eT] at hQ
  have lt_a1 := A_a1.lt
  obtain ⟨b1b4, rfl, N9, Kc, hs_b1b4, A_b1b4, E_b1b4⟩ := hQ
  have g_b1b4 : n0 ≤ b1b4 := Nat.le_trans Zs hs_b1b4
  have sz_b1b4 : h0.size ≤ b1b4 := Nat.le_trans K.1 hs_b1b4
  have ne_a1_b1b4 : a1 ≠ b1b4 := Nat.ne_of_lt (Nat.lt_of_lt_of_le lt_a1 hs_b1b4)
  have A_a1 := A_a1.keep Kc nin0
  have E_a1 := E_a1.keep Kc
  have K := K.trans Kc all0
  have Zs := Nat.le_trans Zs Kc.1
  have N := Fr.app N N9
  show Go p e below _ T1 (mkF m 4 #[.val (.ref a1), .val (.int (0 : Int32)), .val (.int (3 : Int32)), .unset, .unset] [(.ref b1b4)])
  refine own_astoreN X hx hby d26_4 rfl (l' := #[.val (.ref a1), .val (.int (0 : Int32)), .val (.int (3 : Int32)), .val (.ref b1b4), .unset]) rfl 5 rfl ?_
  refine own_iconst X hx hby (0 : Int32) d26_5 rfl 6 rfl ?_
  refine own_istore X hx hby d26_6 rfl (l' := #[.val (.ref a1), .val (.int (0 : Int32)), .val (.int (3 : Int32)), .val (.ref b1b4), .val (.int (0 : Int32))]) rfl 8 rfl ?_
  refine own_iload X hx hby (0 : Int32) d26_8 rfl 10 rfl ?_
  refine own_iloadN X hx hby (3 : Int32) d26_10 rfl 11 rfl ?_
  have c11 : (0 : Int32) < (3 : Int32) := by decide
  refine own_icmp_ge X hx hby d26_11 32 14 (by decide) rfl (fun q => absurd c11 q) (fun _ => ?_)
  refine own_aloadN X hx hby (.ref b1b4) d26_14 rfl rfl 15 rfl ?_
  refine own_iload X hx hby (0 : Int32) d26_15 rfl 17 rfl ?_
  refine own_aloadN X hx hby (.ref a1) d26_17 rfl rfl 18 rfl ?_
  refine own_iloadN X hx hby (0 : Int32) d26_18 rfl 19 rfl ?_
  refine own_caload X hx hby hZ (ar_a1 0) eT A_a1 (by decide) rfl d26_19 20 rfl ?_
  refine own_callS X hx hby hZ (st := []) [(.ref b1b4), (.int (0 : Int32)), (.int (ar_a1 0))] rfl hown (hw _ (List.mem_of_getElem? (i := 125) rfl)) (hw _ (List.mem_of_getElem? (i := 126) rfl)) (hw _ (List.mem_of_getElem? (i := 40) rfl)) (hw _ (List.mem_of_getElem? (i := 127) rfl)) (by decide) d26_20 (rm29_0 l Z a0 hw b1b4 (ar_a1 0) (fun _ => (0 : Int32)) 6 h1 n0 Zs (by decide) (by decide) A_b1b4 E_b1b4 g_b1b4 (S__assertionsDisabled.ext (own_ext0 K)) (S_HI_BYTE_SHIFT.ext (own_ext0 K)) (S_LO_BYTE_SHIFT.ext (own_ext0 K))) eT pd_17 rfl (by rw [hml]; rfl) (by decide) 0 rfl (by decide) (by decide) (by decide) 23 rfl ?_
  intro T20 L9 v9 X hQ
  obtain ⟨h20, eT⟩ : ∃ z, T20.heap = z := ⟨_, rfl⟩
  rw [eT] at hQ
  obtain ⟨rfl, N9, Kc, A_b1b4, E_b1b4⟩ := hQ
  have A_a1 := A_a1.keep Kc (ninS ne_a1_b1b4 nin0)
  have E_a1 := E_a1.keep Kc
  have K := K.trans Kc (allS (Or.inr sz_b1b4) all0)
  have Zs := Nat.le_trans Zs Kc.1
  have N := Fr.app N N9
  show Go p e below _ T20 (mkF m 23 #[.val (.ref a1), .val (.int (0 : Int32)), .val (.int (3 : Int32)), .val (.ref b1b4), .val (.int (0 : Int32))] [])
  refine own_iinc X hx hby d26_23 (x := (0 : Int32)) rfl (by decide) (l' := #[.val (.ref a1), .val (.int (1 : Int32)), .val (.int (3 : Int32)), .val (.ref b1b4), .val (.int (0 : Int32))]) rfl 26 rfl ?_
  refine own_iinc X hx hby d26_26 (x := (0 : Int32)) rfl (by decide) (l' := #[.val (.ref a1), .val (.int (1 : Int32)), .val (.int (3 : Int32)), .val (.ref b1b4), .val (.int (1 : Int32))]) rfl 29 rfl ?_
  refine own_goto X hx hby d26_29 8 (by decide) ?_
  refine own_iload X hx hby (1 : Int32) d26_8 rfl 10 rfl ?_
  refine own_iloadN X hx hby (3 : Int32) d26_10 rfl 11 rfl ?_
  have c11_2 : (1 : Int32) < (3 : Int32) := by decide
  refine own_icmp_ge X hx hby d26_11 32 14 (by decide) rfl (fun q => absurd c11_2 q) (fun _ => ?_)
  refine own_aloadN X hx hby (.ref b1b4) d26_14 rfl rfl 15 rfl ?_
  refine own_iload X hx hby (1 : Int32) d26_15 rfl 17 rfl ?_
  refine own_aloadN X hx hby (.ref a1) d26_17 rfl rfl 18 rfl ?_
  refine own_iloadN X hx hby (1 : Int32) d26_18 rfl 19 rfl ?_
  refine own_caload X hx hby hZ (ar_a1 1) eT A_a1 (by decide) rfl d26_19 20 rfl ?_
  refine own_callS X hx hby hZ (st := []) [(.ref b1b4), (.int (1 : Int32)), (.int (ar_a1 1))] rfl hown (hw _ (List.mem_of_getElem? (i := 125) rfl)) (hw _ (List.mem_of_getElem? (i := 126) rfl)) (hw _ (List.mem_of_getElem? (i := 40) rfl)) (hw _ (List.mem_of_getElem? (i := 127) rfl)) (by decide) d26_20 (rm29_1 l Z a0 hw b1b4 (ar_a1 1) (updI (updI (fun _ => (0 : Int32)) 0 (nar .byte (((ar_a1 0) >>> ((0 : Int32) &&& 31)).toInt8.toInt32))) 1 (nar .byte (((ar_a1 0) >>> ((8 : Int32) &&& 31)).toInt8.toInt32))) 6 h20 n0 Zs (by decide) (by decide) A_b1b4 E_b1b4 g_b1b4 (S__assertionsDisabled.ext (own_ext0 K)) (S_HI_BYTE_SHIFT.ext (own_ext0 K)) (S_LO_BYTE_SHIFT.ext (own_ext0 K))) eT pd_17 rfl (by rw [hml]; rfl) (by decide) 0 rfl (by decide) (by decide) (by decide) 23 rfl ?_
  intro T20 L9 v9 X hQ
  obtain ⟨h20, eT⟩ : ∃ z, T20.heap = z := ⟨_, rfl⟩
  rw [eT] at hQ
  obtain ⟨rfl, N9, Kc, A_b1b4, E_b1b4⟩ := hQ
  have A_a1 := A_a1.keep Kc (ninS ne_a1_b1b4 nin0)
  have E_a1 := E_a1.keep Kc
  have K := K.trans Kc (allS (Or.inr sz_b1b4) all0)
  have Zs := Nat.le_trans Zs Kc.1
  have N := Fr.app N N9
  show Go p e below _ T20 (mkF m 23 #[.val (.ref a1), .val (.int (1 : Int32)), .val (.int (3 : Int32)), .val (.ref b1b4), .val (.int (1 : Int32))] [])
  refine own_iinc X hx hby d26_23 (x := (1 : Int32)) rfl (by decide) (l' := #[.val (.ref a1), .val (.int (2 : Int32)), .val (.int (3 : Int32)), .val (.ref b1b4), .val (.int (1 : Int32))]) rfl 26 rfl ?_
  refine own_iinc X hx hby d26_26 (x := (1 : Int32)) rfl (by decide) (l' := #[.val (.ref a1), .val (.int (2 : Int32)), .val (.int (3 : Int32)), .val (.ref b1b4), .val (.int (2 : Int32))]) rfl 29 rfl ?_
  refine own_goto X hx hby d26_29 8 (by decide) ?_
  refine own_iload X hx hby (2 : Int32) d26_8 rfl 10 rfl ?_
  refine own_iloadN X hx hby (3 : Int32) d26_10 rfl 11 rfl ?_
  have c11_3 : (2 : Int32) < (3 : Int32) := by decide
  refine own_icmp_ge X hx hby d26_11 32 14 (by decide) rfl (fun q => absurd c11_3 q) (fun _ => ?_)
  refine own_aloadN X hx hby (.ref b1b4) d26_14 rfl rfl 15 rfl ?_
  refine own_iload X hx hby (2 : Int32) d26_15 rfl 17 rfl ?_
  refine own_aloadN X hx hby (.ref a1) d26_17 rfl rfl 18 rfl ?_
  refine own_iloadN X hx hby (2 : Int32) d26_18 rfl 19 rfl ?_
  refine own_caload X hx hby hZ (ar_a1 2) eT A_a1 (by decide) rfl d26_19 20 rfl ?_
  refine own_callS X hx hby hZ (st := []) [(.ref b1b4), (.int (2 : Int32)), (.int (ar_a1 2))] rfl hown (hw _ (List.mem_of_getElem? (i := 125) rfl)) (hw _ (List.mem_of_getElem? (i := 126) rfl)) (hw _ (List.mem_of_getElem? (i := 40) rfl)) (hw _ (List.mem_of_getElem? (i := 127) rfl)) (by decide) d26_20 (rm29_2 l Z a0 hw b1b4 (ar_a1 2) (updI (updI (updI (updI (fun _ => (0 : Int32)) 0 (nar .byte (((ar_a1 0) >>> ((0 : Int32) &&& 31)).toInt8.toInt32))) 1 (nar .byte (((ar_a1 0) >>> ((8 : Int32) &&& 31)).toInt8.toInt32))) 2 (nar .byte (((ar_a1 1) >>> ((0 : Int32) &&& 31)).toInt8.toInt32))) 3 (nar .byte (((ar_a1 1) >>> ((8 : Int32) &&& 31)).toInt8.toInt32))) 6 h20 n0 Zs (by decide) (by decide) A_b1b4 E_b1b4 g_b1b4 (S__assertionsDisabled.ext (own_ext0 K)) (S_HI_BYTE_SHIFT.ext (own_ext0 K)) (S_LO_BYTE_SHIFT.ext (own_ext0 K))) eT pd_17 rfl (by rw [hml]; rfl) (by decide) 0 rfl (by decide) (by decide) (by decide) 23 rfl ?_
  intro T20 L9 v9 X hQ
  obtain ⟨h20, eT⟩ : ∃ z, T20.heap = z := ⟨_, rfl⟩
  rw [eT] at hQ
  obtain ⟨rfl, N9, Kc, A_b1b4, E_b1b4⟩ := hQ
  have A_a1 := A_a1.keep Kc (ninS ne_a1_b1b4 nin0)
  have E_a1 := E_a1.keep Kc
  have K := K.trans Kc (allS (Or.inr sz_b1b4) all0)
  have Zs := Nat.le_trans Zs Kc.1
  have N := Fr.app N N9
  show Go p e below _ T20 (mkF m 23 #[.val (.ref a1), .val (.int (2 : Int32)), .val (.int (3 : Int32)), .val (.ref b1b4), .val (.int (2 : Int32))] [])
  refine own_iinc X hx hby d26_23 (x := (2 : Int32)) rfl (by decide) (l' := #[.val (.ref a1), .val (.int (3 : Int32)), .val (.int (3 : Int32)), .val (.ref b1b4), .val (.int (2 : Int32))]) rfl 26 rfl ?_
  refine own_iinc X hx hby d26_26 (x := (2 : Int32)) rfl (by decide) (l' := #[.val (.ref a1), .val (.int (3 : Int32)), .val (.int (3 : Int32)), .val (.ref b1b4), .val (.int (3 : Int32))]) rfl 29 rfl ?_
  refine own_goto X hx hby d26_29 8 (by decide) ?_
  refine own_iload X hx hby (3 : Int32) d26_8 rfl 10 rfl ?_
  refine own_iloadN X hx hby (3 : Int32) d26_10 rfl 11 rfl ?_
  have c11_4 : ¬ (3 : Int32) < (3 : Int32) := by decide
  refine own_icmp_ge X hx hby d26_11 32 14 (by decide) rfl (fun _ => ?_) (fun q => absurd q c11_4)
  refine own_aloadN X hx hby (.ref b1b4) d26_32 rfl rfl 33 rfl ?_
  refine own_retA X hx hby hret hlk rfl rfl rfl d26_33 (by decide) (by decide) ?_
  rw [eT]
  exact ⟨b1b4, rfl, N, K, sz_b1b4, A_b1b4, E_b1b4⟩
theorem ef_26_4 (a1 : Addr) (m : MethodId) : entryFrame m #[(.ref a1), (.int (0 : Int32)), (.int (4 : Int32))] 5 = mkF m 0 #[.val (.ref a1), .val (.int (0 : Int32)), .val (.int (4 : Int32)), .unset, .unset] [] := by first | (simp [entryFrame, mkF, argsToLocals, Value.category]; done) | rfl
def Q26_4 (Z : State) (a1 : Addr) (ar_a1 : Nat → Int32) (h0 : Heap) (n0 : Nat) (v : Option Value) (h : Heap) (L : List Loc) : Prop := ∃ (b1b4 : Addr), v = some (.ref b1b4) ∧ Fr n0 L ∧ Keep h0 h [] ∧ h0.size ≤ b1b4 ∧ Afi Z h b1b4 .byte 8 (updI (updI (updI (updI (updI (updI (updI (updI (fun _ => (0 : Int32)) 0 (nar .byte (((ar_a1 0) >>> ((0 : Int32) &&& 31)).toInt8.toInt32))) 1 (nar .byte (((ar_a1 0) >>> ((8 : Int32) &&& 31)).toInt8.toInt32))) 2 (nar .byte (((ar_a1 1) >>> ((0 : Int32) &&& 31)).toInt8.toInt32))) 3 (nar .byte (((ar_a1 1) >>> ((8 : Int32) &&& 31)).toInt8.toInt32))) 4 (nar .byte (((ar_a1 2) >>> ((0 : Int32) &&& 31)).toInt8.toInt32))) 5 (nar .byte (((ar_a1 2) >>> ((8 : Int32) &&& 31)).toInt8.toInt32))) 6 (nar .byte (((ar_a1 3) >>> ((0 : Int32) &&& 31)).toInt8.toInt32))) 7 (nar .byte (((ar_a1 3) >>> ((8 : Int32) &&& 31)).toInt8.toInt32))) ∧ Exa Z h b1b4 "[B"
set_option maxRecDepth 65536 in
set_option maxHeartbeats 40000000 in
theorem rm26_4 (l : Launch) (Z : State) (a0 : Array Value) (hw : ∀ d ∈ tables_1, d.before a0 Z = true) (a1 : Addr) (ar_a1 : Nat → Int32) (h0 : Heap) (n0 : Nat) (Zs : n0 ≤ h0.size) (A_a1 : Afi Z h0 a1 .char 4 ar_a1) (E_a1 : Exa Z h0 a1 "[C") (S__assertionsDisabled : Sta Z h0 "java/lang/StringUTF16" "$assertionsDisabled" "Z" (.int (1 : Int32))) (S_HI_BYTE_SHIFT : Sta Z h0 "java/lang/StringUTF16" "HI_BYTE_SHIFT" "I" (.int (0 : Int32))) (S_LO_BYTE_SHIFT : Sta Z h0 "java/lang/StringUTF16" "LO_BYTE_SHIFT" "I" (.int (8 : Int32))) :
    Met1 l Z (⟨"java/lang/StringUTF16", "toBytes", "([CII)[B"⟩ : MethodName) jdk_52_method_14_code 5 (some (.array .byte)) ({ frames := 2, cells := 1, slots := 8, locals := 24 } : Room) #[(.ref a1), (.int (0 : Int32)), (.int (4 : Int32))] h0 (Q26_4 Z a1 ar_a1 h0 n0) := by
  refine own_met_of (plainFor_of_name pn_33) (ef_26_4 a1) ?_
  intro p e s m below meth c s₁ X hx hby hml hZ hown hnm hret hlk eT
  have hown : s.vm.findClass "java/lang/StringUTF16" = some m.cls := hown
  have N := Fr.nil n0
  have K := Keep.refl h0 []
  refine own_iloadN X hx hby (4 : Int32) d26_0 rfl 1 rfl ?_
  refine own_callS X hx hby hZ (st := []) [(.int (4 : Int32))] rfl hown (hw _ (List.mem_of_getElem? (i := 118) rfl)) (hw _ (List.mem_of_getElem? (i := 119) rfl)) (hw _ (List.mem_of_getElem? (i := 40) rfl)) (hw _ (List.mem_of_getElem? (i := 120) rfl)) (by decide) d26_1 (rm27_4 l Z a0 hw  h0 n0 Zs ) eT pd_8 rfl (by rw [hml]; rfl) (by decide) 0 rfl (by decide) (by decide) (by decide) 4 rfl ?_
  intro T1 L9 v9 X hQ
  obtain ⟨h1, eT⟩ : ∃ z, T1.heap = z := ⟨_, rfl⟩
  rw [eT] at hQ
  have lt_a1 := A_a1.lt
  obtain ⟨b1b4, rfl, N9, Kc, hs_b1b4, A_b1b4, E_b1b4⟩ := hQ
  have g_b1b4 : n0 ≤ b1b4 := Nat.le_trans Zs hs_b1b4
  have sz_b1b4 : h0.size ≤ b1b4 := Nat.le_trans K.1 hs_b1b4
  have ne_a1_b1b4 : a1 ≠ b1b4 := Nat.ne_of_lt (Nat.lt_of_lt_of_le lt_a1 hs_b1b4)
  have A_a1 := A_a1.keep Kc nin0
  have E_a1 := E_a1.keep Kc
  have K := K.trans Kc all0
  have Zs := Nat.le_trans Zs Kc.1
  have N := Fr.app N N9
  show Go p e below _ T1 (mkF m 4 #[.val (.ref a1), .val (.int (0 : Int32)), .val (.int (4 : Int32)), .unset, .unset] [(.ref b1b4)])
  refine own_astoreN X hx hby d26_4 rfl (l' := #[.val (.ref a1), .val (.int (0 : Int32)), .val (.int (4 : Int32)), .val (.ref b1b4), .unset]) rfl 5 rfl ?_
  refine own_iconst X hx hby (0 : Int32) d26_5 rfl 6 rfl ?_
  refine own_istore X hx hby d26_6 rfl (l' := #[.val (.ref a1), .val (.int (0 : Int32)), .val (.int (4 : Int32)), .val (.ref b1b4), .val (.int (0 : Int32))]) rfl 8 rfl ?_
  refine own_iload X hx hby (0 : Int32) d26_8 rfl 10 rfl ?_
  refine own_iloadN X hx hby (4 : Int32) d26_10 rfl 11 rfl ?_
  have c11 : (0 : Int32) < (4 : Int32) := by decide
  refine own_icmp_ge X hx hby d26_11 32 14 (by decide) rfl (fun q => absurd c11 q) (fun _ => ?_)
  refine own_aloadN X hx hby (.ref b1b4) d26_14 rfl rfl 15 rfl ?_
  refine own_iload X hx hby (0 : Int32) d26_15 rfl 17 rfl ?_
  refine own_aloadN X hx hby (.ref a1) d26_17 rfl rfl 18 rfl ?_
  refine own_iloadN X hx hby (0 : Int32) d26_18 rfl 19 rfl ?_
  refine own_caload X hx hby hZ (ar_a1 0) eT A_a1 (by decide) rfl d26_19 20 rfl ?_
  refine own_callS X hx hby hZ (st := []) [(.ref b1b4), (.int (0 : Int32)), (.int (ar_a1 0))] rfl hown (hw _ (List.mem_of_getElem? (i := 125) rfl)) (hw _ (List.mem_of_getElem? (i := 126) rfl)) (hw _ (List.mem_of_getElem? (i := 40) rfl)) (hw _ (List.mem_of_getElem? (i := 127) rfl)) (by decide) d26_20 (rm29_0 l Z a0 hw b1b4 (ar_a1 0) (fun _ => (0 : Int32)) 8 h1 n0 Zs (by decide) (by decide) A_b1b4 E_b1b4 g_b1b4 (S__assertionsDisabled.ext (own_ext0 K)) (S_HI_BYTE_SHIFT.ext (own_ext0 K)) (S_LO_BYTE_SHIFT.ext (own_ext0 K))) eT pd_17 rfl (by rw [hml]; rfl) (by decide) 0 rfl (by decide) (by decide) (by decide) 23 rfl ?_
  intro T20 L9 v9 X hQ
  obtain ⟨h20, eT⟩ : ∃ z, T20.heap = z := ⟨_, rfl⟩
  rw [eT] at hQ
  obtain ⟨rfl, N9, Kc, A_b1b4, E_b1b4⟩ := hQ
  have A_a1 := A_a1.keep Kc (ninS ne_a1_b1b4 nin0)
  have E_a1 := E_a1.keep Kc
  have K := K.trans Kc (allS (Or.inr sz_b1b4) all0)
  have Zs := Nat.le_trans Zs Kc.1
  have N := Fr.app N N9
  show Go p e below _ T20 (mkF m 23 #[.val (.ref a1), .val (.int (0 : Int32)), .val (.int (4 : Int32)), .val (.ref b1b4), .val (.int (0 : Int32))] [])
  refine own_iinc X hx hby d26_23 (x := (0 : Int32)) rfl (by decide) (l' := #[.val (.ref a1), .val (.int (1 : Int32)), .val (.int (4 : Int32)), .val (.ref b1b4), .val (.int (0 : Int32))]) rfl 26 rfl ?_
  refine own_iinc X hx hby d26_26 (x := (0 : Int32)) rfl (by decide) (l' := #[.val (.ref a1), .val (.int (1 : Int32)), .val (.int (4 : Int32)), .val (.ref b1b4), .val (.int (1 : Int32))]) rfl 29 rfl ?_
  refine own_goto X hx hby d26_29 8 (by decide) ?_
  refine own_iload X hx hby (1 : Int32) d26_8 rfl 10 rfl ?_
  refine own_iloadN X hx hby (4 : Int32) d26_10 rfl 11 rfl ?_
  have c11_2 : (1 : Int32) < (4 : Int32) := by decide
  refine own_icmp_ge X hx hby d26_11 32 14 (by decide) rfl (fun q => absurd c11_2 q) (fun _ => ?_)
  refine own_aloadN X hx hby (.ref b1b4) d26_14 rfl rfl 15 rfl ?_
  refine own_iload X hx hby (1 : Int32) d26_15 rfl 17 rfl ?_
  refine own_aloadN X hx hby (.ref a1) d26_17 rfl rfl 18 rfl ?_
  refine own_iloadN X hx hby (1 : Int32) d26_18 rfl 19 rfl ?_
  refine own_caload X hx hby hZ (ar_a1 1) eT A_a1 (by decide) rfl d26_19 20 rfl ?_
  refine own_callS X hx hby hZ (st := []) [(.ref b1b4), (.int (1 : Int32)), (.int (ar_a1 1))] rfl hown (hw _ (List.mem_of_getElem? (i := 125) rfl)) (hw _ (List.mem_of_getElem? (i := 126) rfl)) (hw _ (List.mem_of_getElem? (i := 40) rfl)) (hw _ (List.mem_of_getElem? (i := 127) rfl)) (by decide) d26_20 (rm29_1 l Z a0 hw b1b4 (ar_a1 1) (updI (updI (fun _ => (0 : Int32)) 0 (nar .byte (((ar_a1 0) >>> ((0 : Int32) &&& 31)).toInt8.toInt32))) 1 (nar .byte (((ar_a1 0) >>> ((8 : Int32) &&& 31)).toInt8.toInt32))) 8 h20 n0 Zs (by decide) (by decide) A_b1b4 E_b1b4 g_b1b4 (S__assertionsDisabled.ext (own_ext0 K)) (S_HI_BYTE_SHIFT.ext (own_ext0 K)) (S_LO_BYTE_SHIFT.ext (own_ext0 K))) eT pd_17 rfl (by rw [hml]; rfl) (by decide) 0 rfl (by decide) (by decide) (by decide) 23 rfl ?_
  intro T20 L9 v9 X hQ
  obtain ⟨h20, eT⟩ : ∃ z, T20.heap = z := ⟨_, rfl⟩
  rw [eT] at hQ
  obtain ⟨rfl, N9, Kc, A_b1b4, E_b1b4⟩ := hQ
  have A_a1 := A_a1.keep Kc (ninS ne_a1_b1b4 nin0)
  have E_a1 := E_a1.keep Kc
  have K := K.trans Kc (allS (Or.inr sz_b1b4) all0)
  have Zs := Nat.le_trans Zs Kc.1
  have N := Fr.app N N9
  show Go p e below _ T20 (mkF m 23 #[.val (.ref a1), .val (.int (1 : Int32)), .val (.int (4 : Int32)), .val (.ref b1b4), .val (.int (1 : Int32))] [])
  refine own_iinc X hx hby d26_23 (x := (1 : Int32)) rfl (by decide) (l' := #[.val (.ref a1), .val (.int (2 : Int32)), .val (.int (4 : Int32)), .val (.ref b1b4), .val (.int (1 : Int32))]) rfl 26 rfl ?_
  refine own_iinc X hx hby d26_26 (x := (1 : Int32)) rfl (by decide) (l' := #[.val (.ref a1), .val (.int (2 : Int32)), .val (.int (4 : Int32)), .val (.ref b1b4), .val (.int (2 : Int32))]) rfl 29 rfl ?_
  refine own_goto X hx hby d26_29 8 (by decide) ?_
  refine own_iload X hx hby (2 : Int32) d26_8 rfl 10 rfl ?_
  refine own_iloadN X hx hby (4 : Int32) d26_10 rfl 11 rfl ?_
  have c11_3 : (2 : Int32) < (4 : Int32) := by decide
  refine own_icmp_ge X hx hby d26_11 32 14 (by decide) rfl (fun q => absurd c11_3 q) (fun _ => ?_)
  refine own_aloadN X hx hby (.ref b1b4) d26_14 rfl rfl 15 rfl ?_
  refine own_iload X hx hby (2 : Int32) d26_15 rfl 17 rfl ?_
  refine own_aloadN X hx hby (.ref a1) d26_17 rfl rfl 18 rfl ?_
  refine own_iloadN X hx hby (2 : Int32) d26_18 rfl 19 rfl ?_
  refine own_caload X hx hby hZ (ar_a1 2) eT A_a1 (by decide) rfl d26_19 20 rfl ?_
  refine own_callS X hx hby hZ (st := []) [(.ref b1b4), (.int (2 : Int32)), (.int (ar_a1 2))] rfl hown (hw _ (List.mem_of_getElem? (i := 125) rfl)) (hw _ (List.mem_of_getElem? (i := 126) rfl)) (hw _ (List.mem_of_getElem? (i := 40) rfl)) (hw _ (List.mem_of_getElem? (i := 127) rfl)) (by decide) d26_20 (rm29_2 l Z a0 hw b1b4 (ar_a1 2) (updI (updI (updI (updI (fun _ => (0 : Int32)) 0 (nar .byte (((ar_a1 0) >>> ((0 : Int32) &&& 31)).toInt8.toInt32))) 1 (nar .byte (((ar_a1 0) >>> ((8 : Int32) &&& 31)).toInt8.toInt32))) 2 (nar .byte (((ar_a1 1) >>> ((0 : Int32) &&& 31)).toInt8.toInt32))) 3 (nar .byte (((ar_a1 1) >>> ((8 : Int32) &&& 31)).toInt8.toInt32))) 8 h20 n0 Zs (by decide) (by decide) A_b1b4 E_b1b4 g_b1b4 (S__assertionsDisabled.ext (own_ext0 K)) (S_HI_BYTE_SHIFT.ext (own_ext0 K)) (S_LO_BYTE_SHIFT.ext (own_ext0 K))) eT pd_17 rfl (by rw [hml]; rfl) (by decide) 0 rfl (by decide) (by decide) (by decide) 23 rfl ?_
  intro T20 L9 v9 X hQ
  obtain ⟨h20, eT⟩ : ∃ z, T20.heap = z := ⟨_, rfl⟩
  rw [eT] at hQ
  obtain ⟨rfl, N9, Kc, A_b1b4, E_b1b4⟩ := hQ
  have A_a1 := A_a1.keep Kc (ninS ne_a1_b1b4 nin0)
  have E_a1 := E_a1.keep Kc
  have K := K.trans Kc (allS (Or.inr sz_b1b4) all0)
  have Zs := Nat.le_trans Zs Kc.1
  have N := Fr.app N N9
  show Go p e below _ T20 (mkF m 23 #[.val (.ref a1), .val (.int (2 : Int32)), .val (.int (4 : Int32)), .val (.ref b1b4), .val (.int (2 : Int32))] [])
  refine own_iinc X hx hby d26_23 (x := (2 : Int32)) rfl (by decide) (l' := #[.val (.ref a1), .val (.int (3 : Int32)), .val (.int (4 : Int32)), .val (.ref b1b4), .val (.int (2 : Int32))]) rfl 26 rfl ?_
  refine own_iinc X hx hby d26_26 (x := (2 : Int32)) rfl (by decide) (l' := #[.val (.ref a1), .val (.int (3 : Int32)), .val (.int (4 : Int32)), .val (.ref b1b4), .val (.int (3 : Int32))]) rfl 29 rfl ?_
  refine own_goto X hx hby d26_29 8 (by decide) ?_
  refine own_iload X hx hby (3 : Int32) d26_8 rfl 10 rfl ?_
  refine own_iloadN X hx hby (4 : Int32) d26_10 rfl 11 rfl ?_
  have c11_4 : (3 : Int32) < (4 : Int32) := by decide
  refine own_icmp_ge X hx hby d26_11 32 14 (by decide) rfl (fun q => absurd c11_4 q) (fun _ => ?_)
  refine own_aloadN X hx hby (.ref b1b4) d26_14 rfl rfl 15 rfl ?_
  refine own_iload X hx hby (3 : Int32) d26_15 rfl 17 rfl ?_
  refine own_aloadN X hx hby (.ref a1) d26_17 rfl rfl 18 rfl ?_
  refine own_iloadN X hx hby (3 : Int32) d26_18 rfl 19 rfl ?_
  refine own_caload X hx hby hZ (ar_a1 3) eT A_a1 (by decide) rfl d26_19 20 rfl ?_
  refine own_callS X hx hby hZ (st := []) [(.ref b1b4), (.int (3 : Int32)), (.int (ar_a1 3))] rfl hown (hw _ (List.mem_of_getElem? (i := 125) rfl)) (hw _ (List.mem_of_getElem? (i := 126) rfl)) (hw _ (List.mem_of_getElem? (i := 40) rfl)) (hw _ (List.mem_of_getElem? (i := 127) rfl)) (by decide) d26_20 (rm29_3 l Z a0 hw b1b4 (ar_a1 3) (updI (updI (updI (updI (updI (updI (fun _ => (0 : Int32)) 0 (nar .byte (((ar_a1 0) >>> ((0 : Int32) &&& 31)).toInt8.toInt32))) 1 (nar .byte (((ar_a1 0) >>> ((8 : Int32) &&& 31)).toInt8.toInt32))) 2 (nar .byte (((ar_a1 1) >>> ((0 : Int32) &&& 31)).toInt8.toInt32))) 3 (nar .byte (((ar_a1 1) >>> ((8 : Int32) &&& 31)).toInt8.toInt32))) 4 (nar .byte (((ar_a1 2) >>> ((0 : Int32) &&& 31)).toInt8.toInt32))) 5 (nar .byte (((ar_a1 2) >>> ((8 : Int32) &&& 31)).toInt8.toInt32))) 8 h20 n0 Zs (by decide) (by decide) A_b1b4 E_b1b4 g_b1b4 (S__assertionsDisabled.ext (own_ext0 K)) (S_HI_BYTE_SHIFT.ext (own_ext0 K)) (S_LO_BYTE_SHIFT.ext (own_ext0 K))) eT pd_17 rfl (by rw [hml]; rfl) (by decide) 0 rfl (by decide) (by decide) (by decide) 23 rfl ?_
  intro T20 L9 v9 X hQ
  obtain ⟨h20, eT⟩ : ∃ z, T20.heap = z := ⟨_, rfl⟩
  rw [eT] at hQ
  obtain ⟨rfl, N9, Kc, A_b1b4, E_b1b4⟩ := hQ
  have A_a1 := A_a1.keep Kc (ninS ne_a1_b1b4 nin0)
  have E_a1 := E_a1.keep Kc
  have K := K.trans Kc (allS (Or.inr sz_b1b4) all0)
  have Zs := Nat.le_trans Zs Kc.1
  have N := Fr.app N N9
  show Go p e below _ T20 (mkF m 23 #[.val (.ref a1), .val (.int (3 : Int32)), .val (.int (4 : Int32)), .val (.ref b1b4), .val (.int (3 : Int32))] [])
  refine own_iinc X hx hby d26_23 (x := (3 : Int32)) rfl (by decide) (l' := #[.val (.ref a1), .val (.int (4 : Int32)), .val (.int (4 : Int32)), .val (.ref b1b4), .val (.int (3 : Int32))]) rfl 26 rfl ?_
  refine own_iinc X hx hby d26_26 (x := (3 : Int32)) rfl (by decide) (l' := #[.val (.ref a1), .val (.int (4 : Int32)), .val (.int (4 : Int32)), .val (.ref b1b4), .val (.int (4 : Int32))]) rfl 29 rfl ?_
  refine own_goto X hx hby d26_29 8 (by decide) ?_
  refine own_iload X hx hby (4 : Int32) d26_8 rfl 10 rfl ?_
  refine own_iloadN X hx hby (4 : Int32) d26_10 rfl 11 rfl ?_
  have c11_5 : ¬ (4 : Int32) < (4 : Int32) := by decide
  refine own_icmp_ge X hx hby d26_11 32 14 (by decide) rfl (fun _ => ?_) (fun q => absurd q c11_5)
  refine own_aloadN X hx hby (.ref b1b4) d26_32 rfl rfl 33 rfl ?_
  refine own_retA X hx hby hret hlk rfl rfl rfl d26_33 (by decide) (by decide) ?_
  rw [eT]
  exact ⟨b1b4, rfl, N, K, sz_b1b4, A_b1b4, E_b1b4⟩
theorem ef_8_1_0 (a1 : Addr) (a3 : Addr) (m : MethodId) : entryFrame m #[(.ref a1), (.int (0 : Int32)), (.ref a3), (.int (0 : Int32)), (.int (1 : Int32))] 7 = mkF m 0 #[.val (.ref a1), .val (.int (0 : Int32)), .val (.ref a3), .val (.int (0 : Int32)), .val (.int (1 : Int32)), .unset, .unset] [] := by first | (simp [entryFrame, mkF, argsToLocals, Value.category]; done) | rfl
def Q8_1_0 (Z : State) (a1 : Addr) (a3 : Addr) (ar_a1 : Nat → Int32) (ar_a3 : Nat → Int32) (h0 : Heap) (n0 : Nat) (v : Option Value) (h : Heap) (L : List Loc) : Prop := v = some (.int (0 : Int32)) ∧ Fr n0 L ∧ h = h0
set_option maxRecDepth 65536 in
set_option maxHeartbeats 40000000 in
theorem rm8_1_0 (l : Launch) (Z : State) (a0 : Array Value) (hw : ∀ d ∈ tables_1, d.before a0 Z = true) (a1 : Addr) (a3 : Addr) (ar_a1 : Nat → Int32) (ar_a3 : Nat → Int32) (h0 : Heap) (n0 : Nat) (Zs : n0 ≤ h0.size) (hk : (255 : Int32) < (ar_a1 0)) (A_a1 : Afi Z h0 a1 .char 1 ar_a1) (E_a1 : Exa Z h0 a1 "[C") (A_a3 : Afi Z h0 a3 .byte 1 ar_a3) (E_a3 : Exa Z h0 a3 "[B") (g_a1 : n0 ≤ a1) (g_a3 : n0 ≤ a3) :
    Met1 l Z (⟨"java/lang/StringUTF16", "compress", "([CI[BII)I"⟩ : MethodName) jdk_52_method_21_code 7 (some .int) ({ frames := 0, cells := 0, slots := 0, locals := 0 } : Room) #[(.ref a1), (.int (0 : Int32)), (.ref a3), (.int (0 : Int32)), (.int (1 : Int32))] h0 (Q8_1_0 Z a1 a3 ar_a1 ar_a3 h0 n0) := by
  refine own_met_of (plainFor_of_name pn_33) (ef_8_1_0 a1 a3) ?_
  intro p e s m below meth c s₁ X hx hby hml hZ hown hnm hret hlk eT
  have hown : s.vm.findClass "java/lang/StringUTF16" = some m.cls := hown
  have N := Fr.nil n0
  have ne_a1_a3 : a1 ≠ a3 := ne_exa E_a1 E_a3 (by decide)
  refine own_iconst X hx hby (0 : Int32) d8_0 rfl 1 rfl ?_
  refine own_istore X hx hby d8_1 rfl (l' := #[.val (.ref a1), .val (.int (0 : Int32)), .val (.ref a3), .val (.int (0 : Int32)), .val (.int (1 : Int32)), .val (.int (0 : Int32)), .unset]) rfl 3 rfl ?_
  refine own_iload X hx hby (0 : Int32) d8_3 rfl 5 rfl ?_
  refine own_iload X hx hby (1 : Int32) d8_5 rfl 7 rfl ?_
  have c7 : (0 : Int32) < (1 : Int32) := by decide
  refine own_icmp_ge X hx hby d8_7 44 10 (by decide) rfl (fun q => absurd c7 q) (fun _ => ?_)
  refine own_aloadN X hx hby (.ref a1) d8_10 rfl rfl 11 rfl ?_
  refine own_iloadN X hx hby (0 : Int32) d8_11 rfl 12 rfl ?_
  refine own_caload X hx hby hZ (ar_a1 0) eT A_a1 (by decide) rfl d8_12 13 rfl ?_
  refine own_istore X hx hby d8_13 rfl (l' := #[.val (.ref a1), .val (.int (0 : Int32)), .val (.ref a3), .val (.int (0 : Int32)), .val (.int (1 : Int32)), .val (.int (0 : Int32)), .val (.int (ar_a1 0))]) rfl 15 rfl ?_
  refine own_iload X hx hby (ar_a1 0) d8_15 rfl 17 rfl ?_
  refine own_sipush X hx hby (255 : Int32) d8_17 rfl 20 rfl ?_
  have c20 : (255 : Int32) < (ar_a1 0) := hk
  refine own_icmp_le X hx hby d8_20 26 23 (by decide) rfl (fun q => absurd c20 q) (fun _ => ?_)
  refine own_iload X hx hby (0 : Int32) d8_23 rfl 25 rfl ?_
  refine own_retI X hx hby hret hlk d8_25 (by decide) (by decide) ?_
  rw [eT]
  exact ⟨rfl, N, rfl⟩
theorem ef_8_1_1 (a1 : Addr) (a3 : Addr) (m : MethodId) : entryFrame m #[(.ref a1), (.int (0 : Int32)), (.ref a3), (.int (0 : Int32)), (.int (1 : Int32))] 7 = mkF m 0 #[.val (.ref a1), .val (.int (0 : Int32)), .val (.ref a3), .val (.int (0 : Int32)), .val (.int (1 : Int32)), .unset, .unset] [] := by first | (simp [entryFrame, mkF, argsToLocals, Value.category]; done) | rfl
def Q8_1_1 (Z : State) (a1 : Addr) (a3 : Addr) (ar_a1 : Nat → Int32) (ar_a3 : Nat → Int32) (h0 : Heap) (n0 : Nat) (v : Option Value) (h : Heap) (L : List Loc) : Prop := v = some (.int (1 : Int32)) ∧ Fr n0 L ∧ Keep h0 h [a3] ∧ Afi Z h a3 .byte 1 (updI ar_a3 0 (nar .byte ((ar_a1 0).toInt8.toInt32))) ∧ Exa Z h a3 "[B"
set_option maxRecDepth 65536 in
set_option maxHeartbeats 40000000 in
theorem rm8_1_1 (l : Launch) (Z : State) (a0 : Array Value) (hw : ∀ d ∈ tables_1, d.before a0 Z = true) (a1 : Addr) (a3 : Addr) (ar_a1 : Nat → Int32) (ar_a3 : Nat → Int32) (h0 : Heap) (n0 : Nat) (Zs : n0 ≤ h0.size) (hc0 : ¬ (255 : Int32) < (ar_a1 0)) (A_a1 : Afi Z h0 a1 .char 1 ar_a1) (E_a1 : Exa Z h0 a1 "[C") (A_a3 : Afi Z h0 a3 .byte 1 ar_a3) (E_a3 : Exa Z h0 a3 "[B") (g_a1 : n0 ≤ a1) (g_a3 : n0 ≤ a3) :
    Met1 l Z (⟨"java/lang/StringUTF16", "compress", "([CI[BII)I"⟩ : MethodName) jdk_52_method_21_code 7 (some .int) ({ frames := 0, cells := 0, slots := 0, locals := 0 } : Room) #[(.ref a1), (.int (0 : Int32)), (.ref a3), (.int (0 : Int32)), (.int (1 : Int32))] h0 (Q8_1_1 Z a1 a3 ar_a1 ar_a3 h0 n0) := by
  refine own_met_of (plainFor_of_name pn_33) (ef_8_1_1 a1 a3) ?_
  intro p e s m below meth c s₁ X hx hby hml hZ hown hnm hret hlk eT
  have hown : s.vm.findClass "java/lang/StringUTF16" = some m.cls := hown
  have N := Fr.nil n0
  have K := Keep.refl h0 [a3]
  have ne_a1_a3 : a1 ≠ a3 := ne_exa E_a1 E_a3 (by decide)
  refine own_iconst X hx hby (0 : Int32) d8_0 rfl 1 rfl ?_
  refine own_istore X hx hby d8_1 rfl (l' := #[.val (.ref a1), .val (.int (0 : Int32)), .val (.ref a3), .val (.int (0 : Int32)), .val (.int (1 : Int32)), .val (.int (0 : Int32)), .unset]) rfl 3 rfl ?_
  refine own_iload X hx hby (0 : Int32) d8_3 rfl 5 rfl ?_
  refine own_iload X hx hby (1 : Int32) d8_5 rfl 7 rfl ?_
  have c7 : (0 : Int32) < (1 : Int32) := by decide
  refine own_icmp_ge X hx hby d8_7 44 10 (by decide) rfl (fun q => absurd c7 q) (fun _ => ?_)
  refine own_aloadN X hx hby (.ref a1) d8_10 rfl rfl 11 rfl ?_
  refine own_iloadN X hx hby (0 : Int32) d8_11 rfl 12 rfl ?_
  refine own_caload X hx hby hZ (ar_a1 0) eT A_a1 (by decide) rfl d8_12 13 rfl ?_
  refine own_istore X hx hby d8_13 rfl (l' := #[.val (.ref a1), .val (.int (0 : Int32)), .val (.ref a3), .val (.int (0 : Int32)), .val (.int (1 : Int32)), .val (.int (0 : Int32)), .val (.int (ar_a1 0))]) rfl 15 rfl ?_
  refine own_iload X hx hby (ar_a1 0) d8_15 rfl 17 rfl ?_
  refine own_sipush X hx hby (255 : Int32) d8_17 rfl 20 rfl ?_
  have c20 : ¬ (255 : Int32) < (ar_a1 0) := hc0
  refine own_icmp_le X hx hby d8_20 26 23 (by decide) rfl (fun _ => ?_) (fun q => absurd q c20)
  refine own_aloadN X hx hby (.ref a3) d8_26 rfl rfl 27 rfl ?_
  refine own_iloadN X hx hby (0 : Int32) d8_27 rfl 28 rfl ?_
  refine own_iload X hx hby (ar_a1 0) d8_28 rfl 30 rfl ?_
  refine own_i2b X hx hby d8_30 31 rfl ?_
  refine own_bastore X hx hby hZ eT A_a3 (by decide) d8_31 32 rfl ?_
  intro T31 h31 X eT W A
  have A_a1 := A_a1.other W ne_a1_a3
  have E_a1 := E_a1.wr W
  have E_a3 := E_a3.wr W
  have A_a3 : Afi Z h31 a3 .byte 1 (updI ar_a3 0 (nar .byte ((ar_a1 0).toInt8.toInt32))) := A
  have N := Fr.snoc X N g_a3
  have K := K.wr W (Or.inl (List.mem_of_getElem? (i := 0) rfl))
  have Zs := Nat.le_trans Zs (Keep.of_wr W).1
  refine own_iinc X hx hby d8_32 (x := (0 : Int32)) rfl (by decide) (l' := #[.val (.ref a1), .val (.int (1 : Int32)), .val (.ref a3), .val (.int (0 : Int32)), .val (.int (1 : Int32)), .val (.int (0 : Int32)), .val (.int (ar_a1 0))]) rfl 35 rfl ?_
  refine own_iinc X hx hby d8_35 (x := (0 : Int32)) rfl (by decide) (l' := #[.val (.ref a1), .val (.int (1 : Int32)), .val (.ref a3), .val (.int (1 : Int32)), .val (.int (1 : Int32)), .val (.int (0 : Int32)), .val (.int (ar_a1 0))]) rfl 38 rfl ?_
  refine own_iinc X hx hby d8_38 (x := (0 : Int32)) rfl (by decide) (l' := #[.val (.ref a1), .val (.int (1 : Int32)), .val (.ref a3), .val (.int (1 : Int32)), .val (.int (1 : Int32)), .val (.int (1 : Int32)), .val (.int (ar_a1 0))]) rfl 41 rfl ?_
  refine own_goto X hx hby d8_41 3 (by decide) ?_
  refine own_iload X hx hby (1 : Int32) d8_3 rfl 5 rfl ?_
  refine own_iload X hx hby (1 : Int32) d8_5 rfl 7 rfl ?_
  have c7_2 : ¬ (1 : Int32) < (1 : Int32) := by decide
  refine own_icmp_ge X hx hby d8_7 44 10 (by decide) rfl (fun _ => ?_) (fun q => absurd q c7_2)
  refine own_iload X hx hby (1 : Int32) d8_44 rfl 46 rfl ?_
  refine own_retI X hx hby hret hlk d8_46 (by decide) (by decide) ?_
  rw [eT]
  exact ⟨rfl, N, K, A_a3, E_a3⟩
theorem ef_8_2_0 (a1 : Addr) (a3 : Addr) (m : MethodId) : entryFrame m #[(.ref a1), (.int (0 : Int32)), (.ref a3), (.int (0 : Int32)), (.int (2 : Int32))] 7 = mkF m 0 #[.val (.ref a1), .val (.int (0 : Int32)), .val (.ref a3), .val (.int (0 : Int32)), .val (.int (2 : Int32)), .unset, .unset] [] := by first | (simp [entryFrame, mkF, argsToLocals, Value.category]; done) | rfl
def Q8_2_0 (Z : State) (a1 : Addr) (a3 : Addr) (ar_a1 : Nat → Int32) (ar_a3 : Nat → Int32) (h0 : Heap) (n0 : Nat) (v : Option Value) (h : Heap) (L : List Loc) : Prop := v = some (.int (0 : Int32)) ∧ Fr n0 L ∧ h = h0
set_option maxRecDepth 65536 in
set_option maxHeartbeats 40000000 in
theorem rm8_2_0 (l : Launch) (Z : State) (a0 : Array Value) (hw : ∀ d ∈ tables_1, d.before a0 Z = true) (a1 : Addr) (a3 : Addr) (ar_a1 : Nat → Int32) (ar_a3 : Nat → Int32) (h0 : Heap) (n0 : Nat) (Zs : n0 ≤ h0.size) (hk : (255 : Int32) < (ar_a1 0)) (A_a1 : Afi Z h0 a1 .char 2 ar_a1) (E_a1 : Exa Z h0 a1 "[C") (A_a3 : Afi Z h0 a3 .byte 2 ar_a3) (E_a3 : Exa Z h0 a3 "[B") (g_a1 : n0 ≤ a1) (g_a3 : n0 ≤ a3) :
    Met1 l Z (⟨"java/lang/StringUTF16", "compress", "([CI[BII)I"⟩ : MethodName) jdk_52_method_21_code 7 (some .int) ({ frames := 0, cells := 0, slots := 0, locals := 0 } : Room) #[(.ref a1), (.int (0 : Int32)), (.ref a3), (.int (0 : Int32)), (.int (2 : Int32))] h0 (Q8_2_0 Z a1 a3 ar_a1 ar_a3 h0 n0) := by
  refine own_met_of (plainFor_of_name pn_33) (ef_8_2_0 a1 a3) ?_
  intro p e s m below meth c s₁ X hx hby hml hZ hown hnm hret hlk eT
  have hown : s.vm.findClass "java/lang/StringUTF16" = some m.cls := hown
  have N := Fr.nil n0
  have ne_a1_a3 : a1 ≠ a3 := ne_exa E_a1 E_a3 (by decide)
  refine own_iconst X hx hby (0 : Int32) d8_0 rfl 1 rfl ?_
  refine own_istore X hx hby d8_1 rfl (l' := #[.val (.ref a1), .val (.int (0 : Int32)), .val (.ref a3), .val (.int (0 : Int32)), .val (.int (2 : Int32)), .val (.int (0 : Int32)), .unset]) rfl 3 rfl ?_
  refine own_iload X hx hby (0 : Int32) d8_3 rfl 5 rfl ?_
  refine own_iload X hx hby (2 : Int32) d8_5 rfl 7 rfl ?_
  have c7 : (0 : Int32) < (2 : Int32) := by decide
  refine own_icmp_ge X hx hby d8_7 44 10 (by decide) rfl (fun q => absurd c7 q) (fun _ => ?_)
  refine own_aloadN X hx hby (.ref a1) d8_10 rfl rfl 11 rfl ?_
  refine own_iloadN X hx hby (0 : Int32) d8_11 rfl 12 rfl ?_
  refine own_caload X hx hby hZ (ar_a1 0) eT A_a1 (by decide) rfl d8_12 13 rfl ?_
  refine own_istore X hx hby d8_13 rfl (l' := #[.val (.ref a1), .val (.int (0 : Int32)), .val (.ref a3), .val (.int (0 : Int32)), .val (.int (2 : Int32)), .val (.int (0 : Int32)), .val (.int (ar_a1 0))]) rfl 15 rfl ?_
  refine own_iload X hx hby (ar_a1 0) d8_15 rfl 17 rfl ?_
  refine own_sipush X hx hby (255 : Int32) d8_17 rfl 20 rfl ?_
  have c20 : (255 : Int32) < (ar_a1 0) := hk
  refine own_icmp_le X hx hby d8_20 26 23 (by decide) rfl (fun q => absurd c20 q) (fun _ => ?_)
  refine own_iload X hx hby (0 : Int32) d8_23 rfl 25 rfl ?_
  refine own_retI X hx hby hret hlk d8_25 (by decide) (by decide) ?_
  rw [eT]
  exact ⟨rfl, N, rfl⟩
theorem ef_8_2_1 (a1 : Addr) (a3 : Addr) (m : MethodId) : entryFrame m #[(.ref a1), (.int (0 : Int32)), (.ref a3), (.int (0 : Int32)), (.int (2 : Int32))] 7 = mkF m 0 #[.val (.ref a1), .val (.int (0 : Int32)), .val (.ref a3), .val (.int (0 : Int32)), .val (.int (2 : Int32)), .unset, .unset] [] := by first | (simp [entryFrame, mkF, argsToLocals, Value.category]; done) | rfl
def Q8_2_1 (Z : State) (a1 : Addr) (a3 : Addr) (ar_a1 : Nat → Int32) (ar_a3 : Nat → Int32) (h0 : Heap) (n0 : Nat) (v : Option Value) (h : Heap) (L : List Loc) : Prop := v = some (.int (1 : Int32)) ∧ Fr n0 L ∧ Keep h0 h [a3] ∧ Afi Z h a3 .byte 2 (updI ar_a3 0 (nar .byte ((ar_a1 0).toInt8.toInt32))) ∧ Exa Z h a3 "[B"
set_option maxRecDepth 65536 in
set_option maxHeartbeats 40000000 in
theorem rm8_2_1 (l : Launch) (Z : State) (a0 : Array Value) (hw : ∀ d ∈ tables_1, d.before a0 Z = true) (a1 : Addr) (a3 : Addr) (ar_a1 : Nat → Int32) (ar_a3 : Nat → Int32) (h0 : Heap) (n0 : Nat) (Zs : n0 ≤ h0.size) (hc0 : ¬ (255 : Int32) < (ar_a1 0)) (hk : (255 : Int32) < (ar_a1 1)) (A_a1 : Afi Z h0 a1 .char 2 ar_a1) (E_a1 : Exa Z h0 a1 "[C") (A_a3 : Afi Z h0 a3 .byte 2 ar_a3) (E_a3 : Exa Z h0 a3 "[B") (g_a1 : n0 ≤ a1) (g_a3 : n0 ≤ a3) :
    Met1 l Z (⟨"java/lang/StringUTF16", "compress", "([CI[BII)I"⟩ : MethodName) jdk_52_method_21_code 7 (some .int) ({ frames := 0, cells := 0, slots := 0, locals := 0 } : Room) #[(.ref a1), (.int (0 : Int32)), (.ref a3), (.int (0 : Int32)), (.int (2 : Int32))] h0 (Q8_2_1 Z a1 a3 ar_a1 ar_a3 h0 n0) := by
  refine own_met_of (plainFor_of_name pn_33) (ef_8_2_1 a1 a3) ?_
  intro p e s m below meth c s₁ X hx hby hml hZ hown hnm hret hlk eT
  have hown : s.vm.findClass "java/lang/StringUTF16" = some m.cls := hown
  have N := Fr.nil n0
  have K := Keep.refl h0 [a3]
  have ne_a1_a3 : a1 ≠ a3 := ne_exa E_a1 E_a3 (by decide)
  refine own_iconst X hx hby (0 : Int32) d8_0 rfl 1 rfl ?_
  refine own_istore X hx hby d8_1 rfl (l' := #[.val (.ref a1), .val (.int (0 : Int32)), .val (.ref a3), .val (.int (0 : Int32)), .val (.int (2 : Int32)), .val (.int (0 : Int32)), .unset]) rfl 3 rfl ?_
  refine own_iload X hx hby (0 : Int32) d8_3 rfl 5 rfl ?_
  refine own_iload X hx hby (2 : Int32) d8_5 rfl 7 rfl ?_
  have c7 : (0 : Int32) < (2 : Int32) := by decide
  refine own_icmp_ge X hx hby d8_7 44 10 (by decide) rfl (fun q => absurd c7 q) (fun _ => ?_)
  refine own_aloadN X hx hby (.ref a1) d8_10 rfl rfl 11 rfl ?_
  refine own_iloadN X hx hby (0 : Int32) d8_11 rfl 12 rfl ?_
  refine own_caload X hx hby hZ (ar_a1 0) eT A_a1 (by decide) rfl d8_12 13 rfl ?_
  refine own_istore X hx hby d8_13 rfl (l' := #[.val (.ref a1), .val (.int (0 : Int32)), .val (.ref a3), .val (.int (0 : Int32)), .val (.int (2 : Int32)), .val (.int (0 : Int32)), .val (.int (ar_a1 0))]) rfl 15 rfl ?_
  refine own_iload X hx hby (ar_a1 0) d8_15 rfl 17 rfl ?_
  refine own_sipush X hx hby (255 : Int32) d8_17 rfl 20 rfl ?_
  have c20 : ¬ (255 : Int32) < (ar_a1 0) := hc0
  refine own_icmp_le X hx hby d8_20 26 23 (by decide) rfl (fun _ => ?_) (fun q => absurd q c20)
  refine own_aloadN X hx hby (.ref a3) d8_26 rfl rfl 27 rfl ?_
  refine own_iloadN X hx hby (0 : Int32) d8_27 rfl 28 rfl ?_
  refine own_iload X hx hby (ar_a1 0) d8_28 rfl 30 rfl ?_
  refine own_i2b X hx hby d8_30 31 rfl ?_
  refine own_bastore X hx hby hZ eT A_a3 (by decide) d8_31 32 rfl ?_
  intro T31 h31 X eT W A
  have A_a1 := A_a1.other W ne_a1_a3
  have E_a1 := E_a1.wr W
  have E_a3 := E_a3.wr W
  have A_a3 : Afi Z h31 a3 .byte 2 (updI ar_a3 0 (nar .byte ((ar_a1 0).toInt8.toInt32))) := A
  have N := Fr.snoc X N g_a3
  have K := K.wr W (Or.inl (List.mem_of_getElem? (i := 0) rfl))
  have Zs := Nat.le_trans Zs (Keep.of_wr W).1
  refine own_iinc X hx hby d8_32 (x := (0 : Int32)) rfl (by decide) (l' := #[.val (.ref a1), .val (.int (1 : Int32)), .val (.ref a3), .val (.int (0 : Int32)), .val (.int (2 : Int32)), .val (.int (0 : Int32)), .val (.int (ar_a1 0))]) rfl 35 rfl ?_
  refine own_iinc X hx hby d8_35 (x := (0 : Int32)) rfl (by decide) (l' := #[.val (.ref a1), .val (.int (1 : Int32)), .val (.ref a3), .val (.int (1 : Int32)), .val (.int (2 : Int32)), .val (.int (0 : Int32)), .val (.int (ar_a1 0))]) rfl 38 rfl ?_
  refine own_iinc X hx hby d8_38 (x := (0 : Int32)) rfl (by decide) (l' := #[.val (.ref a1), .val (.int (1 : Int32)), .val (.ref a3), .val (.int (1 : Int32)), .val (.int (2 : Int32)), .val (.int (1 : Int32)), .val (.int (ar_a1 0))]) rfl 41 rfl ?_
  refine own_goto X hx hby d8_41 3 (by decide) ?_
  refine own_iload X hx hby (1 : Int32) d8_3 rfl 5 rfl ?_
  refine own_iload X hx hby (2 : Int32) d8_5 rfl 7 rfl ?_
  have c7_2 : (1 : Int32) < (2 : Int32) := by decide
  refine own_icmp_ge X hx hby d8_7 44 10 (by decide) rfl (fun q => absurd c7_2 q) (fun _ => ?_)
  refine own_aloadN X hx hby (.ref a1) d8_10 rfl rfl 11 rfl ?_
  refine own_iloadN X hx hby (1 : Int32) d8_11 rfl 12 rfl ?_
  refine own_caload X hx hby hZ (ar_a1 1) eT A_a1 (by decide) rfl d8_12 13 rfl ?_
  refine own_istore X hx hby d8_13 rfl (l' := #[.val (.ref a1), .val (.int (1 : Int32)), .val (.ref a3), .val (.int (1 : Int32)), .val (.int (2 : Int32)), .val (.int (1 : Int32)), .val (.int (ar_a1 1))]) rfl 15 rfl ?_
  refine own_iload X hx hby (ar_a1 1) d8_15 rfl 17 rfl ?_
  refine own_sipush X hx hby (255 : Int32) d8_17 rfl 20 rfl ?_
  have c20_2 : (255 : Int32) < (ar_a1 1) := hk
  refine own_icmp_le X hx hby d8_20 26 23 (by decide) rfl (fun q => absurd c20_2 q) (fun _ => ?_)
  refine own_iload X hx hby (1 : Int32) d8_23 rfl 25 rfl ?_
  refine own_retI X hx hby hret hlk d8_25 (by decide) (by decide) ?_
  rw [eT]
  exact ⟨rfl, N, K, A_a3, E_a3⟩
theorem ef_8_2_2 (a1 : Addr) (a3 : Addr) (m : MethodId) : entryFrame m #[(.ref a1), (.int (0 : Int32)), (.ref a3), (.int (0 : Int32)), (.int (2 : Int32))] 7 = mkF m 0 #[.val (.ref a1), .val (.int (0 : Int32)), .val (.ref a3), .val (.int (0 : Int32)), .val (.int (2 : Int32)), .unset, .unset] [] := by first | (simp [entryFrame, mkF, argsToLocals, Value.category]; done) | rfl
def Q8_2_2 (Z : State) (a1 : Addr) (a3 : Addr) (ar_a1 : Nat → Int32) (ar_a3 : Nat → Int32) (h0 : Heap) (n0 : Nat) (v : Option Value) (h : Heap) (L : List Loc) : Prop := v = some (.int (2 : Int32)) ∧ Fr n0 L ∧ Keep h0 h [a3] ∧ Afi Z h a3 .byte 2 (updI (updI ar_a3 0 (nar .byte ((ar_a1 0).toInt8.toInt32))) 1 (nar .byte ((ar_a1 1).toInt8.toInt32))) ∧ Exa Z h a3 "[B"
set_option maxRecDepth 65536 in
set_option maxHeartbeats 40000000 in
theorem rm8_2_2 (l : Launch) (Z : State) (a0 : Array Value) (hw : ∀ d ∈ tables_1, d.before a0 Z = true) (a1 : Addr) (a3 : Addr) (ar_a1 : Nat → Int32) (ar_a3 : Nat → Int32) (h0 : Heap) (n0 : Nat) (Zs : n0 ≤ h0.size) (hc0 : ¬ (255 : Int32) < (ar_a1 0)) (hc1 : ¬ (255 : Int32) < (ar_a1 1)) (A_a1 : Afi Z h0 a1 .char 2 ar_a1) (E_a1 : Exa Z h0 a1 "[C") (A_a3 : Afi Z h0 a3 .byte 2 ar_a3) (E_a3 : Exa Z h0 a3 "[B") (g_a1 : n0 ≤ a1) (g_a3 : n0 ≤ a3) :
    Met1 l Z (⟨"java/lang/StringUTF16", "compress", "([CI[BII)I"⟩ : MethodName) jdk_52_method_21_code 7 (some .int) ({ frames := 0, cells := 0, slots := 0, locals := 0 } : Room) #[(.ref a1), (.int (0 : Int32)), (.ref a3), (.int (0 : Int32)), (.int (2 : Int32))] h0 (Q8_2_2 Z a1 a3 ar_a1 ar_a3 h0 n0) := by
  refine own_met_of (plainFor_of_name pn_33) (ef_8_2_2 a1 a3) ?_
  intro p e s m below meth c s₁ X hx hby hml hZ hown hnm hret hlk eT
  have hown : s.vm.findClass "java/lang/StringUTF16" = some m.cls := hown
  have N := Fr.nil n0
  have K := Keep.refl h0 [a3]
  have ne_a1_a3 : a1 ≠ a3 := ne_exa E_a1 E_a3 (by decide)
  refine own_iconst X hx hby (0 : Int32) d8_0 rfl 1 rfl ?_
  refine own_istore X hx hby d8_1 rfl (l' := #[.val (.ref a1), .val (.int (0 : Int32)), .val (.ref a3), .val (.int (0 : Int32)), .val (.int (2 : Int32)), .val (.int (0 : Int32)), .unset]) rfl 3 rfl ?_
  refine own_iload X hx hby (0 : Int32) d8_3 rfl 5 rfl ?_
  refine own_iload X hx hby (2 : Int32) d8_5 rfl 7 rfl ?_
  have c7 : (0 : Int32) < (2 : Int32) := by decide
  refine own_icmp_ge X hx hby d8_7 44 10 (by decide) rfl (fun q => absurd c7 q) (fun _ => ?_)
  refine own_aloadN X hx hby (.ref a1) d8_10 rfl rfl 11 rfl ?_
  refine own_iloadN X hx hby (0 : Int32) d8_11 rfl 12 rfl ?_
  refine own_caload X hx hby hZ (ar_a1 0) eT A_a1 (by decide) rfl d8_12 13 rfl ?_
  refine own_istore X hx hby d8_13 rfl (l' := #[.val (.ref a1), .val (.int (0 : Int32)), .val (.ref a3), .val (.int (0 : Int32)), .val (.int (2 : Int32)), .val (.int (0 : Int32)), .val (.int (ar_a1 0))]) rfl 15 rfl ?_
  refine own_iload X hx hby (ar_a1 0) d8_15 rfl 17 rfl ?_
  refine own_sipush X hx hby (255 : Int32) d8_17 rfl 20 rfl ?_
  have c20 : ¬ (255 : Int32) < (ar_a1 0) := hc0
  refine own_icmp_le X hx hby d8_20 26 23 (by decide) rfl (fun _ => ?_) (fun q => absurd q c20)
  refine own_aloadN X hx hby (.ref a3) d8_26 rfl rfl 27 rfl ?_
  refine own_iloadN X hx hby (0 : Int32) d8_27 rfl 28 rfl ?_
  refine own_iload X hx hby (ar_a1 0) d8_28 rfl 30 rfl ?_
  refine own_i2b X hx hby d8_30 31 rfl ?_
  refine own_bastore X hx hby hZ eT A_a3 (by decide) d8_31 32 rfl ?_
  intro T31 h31 X eT W A
  have A_a1 := A_a1.other W ne_a1_a3
  have E_a1 := E_a1.wr W
  have E_a3 := E_a3.wr W
  have A_a3 : Afi Z h31 a3 .byte 2 (updI ar_a3 0 (nar .byte ((ar_a1 0).toInt8.toInt32))) := A
  have N := Fr.snoc X N g_a3
  have K := K.wr W (Or.inl (List.mem_of_getElem? (i := 0) rfl))
  have Zs := Nat.le_trans Zs (Keep.of_wr W).1
  refine own_iinc X hx hby d8_32 (x := (0 : Int32)) rfl (by decide) (l' := #[.val (.ref a1), .val (.int (1 : Int32)), .val (.ref a3), .val (.int (0 : Int32)), .val (.int (2 : Int32)), .val (.int (0 : Int32)), .val (.int (ar_a1 0))]) rfl 35 rfl ?_
  refine own_iinc X hx hby d8_35 (x := (0 : Int32)) rfl (by decide) (l' := #[.val (.ref a1), .val (.int (1 : Int32)), .val (.ref a3), .val (.int (1 : Int32)), .val (.int (2 : Int32)), .val (.int (0 : Int32)), .val (.int (ar_a1 0))]) rfl 38 rfl ?_
  refine own_iinc X hx hby d8_38 (x := (0 : Int32)) rfl (by decide) (l' := #[.val (.ref a1), .val (.int (1 : Int32)), .val (.ref a3), .val (.int (1 : Int32)), .val (.int (2 : Int32)), .val (.int (1 : Int32)), .val (.int (ar_a1 0))]) rfl 41 rfl ?_
  refine own_goto X hx hby d8_41 3 (by decide) ?_
  refine own_iload X hx hby (1 : Int32) d8_3 rfl 5 rfl ?_
  refine own_iload X hx hby (2 : Int32) d8_5 rfl 7 rfl ?_
  have c7_2 : (1 : Int32) < (2 : Int32) := by decide
  refine own_icmp_ge X hx hby d8_7 44 10 (by decide) rfl (fun q => absurd c7_2 q) (fun _ => ?_)
  refine own_aloadN X hx hby (.ref a1) d8_10 rfl rfl 11 rfl ?_
  refine own_iloadN X hx hby (1 : Int32) d8_11 rfl 12 rfl ?_
  refine own_caload X hx hby hZ (ar_a1 1) eT A_a1 (by decide) rfl d8_12 13 rfl ?_
  refine own_istore X hx hby d8_13 rfl (l' := #[.val (.ref a1), .val (.int (1 : Int32)), .val (.ref a3), .val (.int (1 : Int32)), .val (.int (2 : Int32)), .val (.int (1 : Int32)), .val (.int (ar_a1 1))]) rfl 15 rfl ?_
  refine own_iload X hx hby (ar_a1 1) d8_15 rfl 17 rfl ?_
  refine own_sipush X hx hby (255 : Int32) d8_17 rfl 20 rfl ?_
  have c20_2 : ¬ (255 : Int32) < (ar_a1 1) := hc1
  refine own_icmp_le X hx hby d8_20 26 23 (by decide) rfl (fun _ => ?_) (fun q => absurd q c20_2)
  refine own_aloadN X hx hby (.ref a3) d8_26 rfl rfl 27 rfl ?_
  refine own_iloadN X hx hby (1 : Int32) d8_27 rfl 28 rfl ?_
  refine own_iload X hx hby (ar_a1 1) d8_28 rfl 30 rfl ?_
  refine own_i2b X hx hby d8_30 31 rfl ?_
  refine own_bastore X hx hby hZ eT A_a3 (by decide) d8_31 32 rfl ?_
  intro T31 h31 X eT W A
  have A_a1 := A_a1.other W ne_a1_a3
  have E_a1 := E_a1.wr W
  have E_a3 := E_a3.wr W
  have A_a3 : Afi Z h31 a3 .byte 2 (updI (updI ar_a3 0 (nar .byte ((ar_a1 0).toInt8.toInt32))) 1 (nar .byte ((ar_a1 1).toInt8.toInt32))) := A
  have N := Fr.snoc X N g_a3
  have K := K.wr W (Or.inl (List.mem_of_getElem? (i := 0) rfl))
  have Zs := Nat.le_trans Zs (Keep.of_wr W).1
  refine own_iinc X hx hby d8_32 (x := (1 : Int32)) rfl (by decide) (l' := #[.val (.ref a1), .val (.int (2 : Int32)), .val (.ref a3), .val (.int (1 : Int32)), .val (.int (2 : Int32)), .val (.int (1 : Int32)), .val (.int (ar_a1 1))]) rfl 35 rfl ?_
  refine own_iinc X hx hby d8_35 (x := (1 : Int32)) rfl (by decide) (l' := #[.val (.ref a1), .val (.int (2 : Int32)), .val (.ref a3), .val (.int (2 : Int32)), .val (.int (2 : Int32)), .val (.int (1 : Int32)), .val (.int (ar_a1 1))]) rfl 38 rfl ?_
  refine own_iinc X hx hby d8_38 (x := (1 : Int32)) rfl (by decide) (l' := #[.val (.ref a1), .val (.int (2 : Int32)), .val (.ref a3), .val (.int (2 : Int32)), .val (.int (2 : Int32)), .val (.int (2 : Int32)), .val (.int (ar_a1 1))]) rfl 41 rfl ?_
  refine own_goto X hx hby d8_41 3 (by decide) ?_
  refine own_iload X hx hby (2 : Int32) d8_3 rfl 5 rfl ?_
  refine own_iload X hx hby (2 : Int32) d8_5 rfl 7 rfl ?_
  have c7_3 : ¬ (2 : Int32) < (2 : Int32) := by decide
  refine own_icmp_ge X hx hby d8_7 44 10 (by decide) rfl (fun _ => ?_) (fun q => absurd q c7_3)
  refine own_iload X hx hby (2 : Int32) d8_44 rfl 46 rfl ?_
  refine own_retI X hx hby hret hlk d8_46 (by decide) (by decide) ?_
  rw [eT]
  exact ⟨rfl, N, K, A_a3, E_a3⟩
theorem ef_8_3_0 (a1 : Addr) (a3 : Addr) (m : MethodId) : entryFrame m #[(.ref a1), (.int (0 : Int32)), (.ref a3), (.int (0 : Int32)), (.int (3 : Int32))] 7 = mkF m 0 #[.val (.ref a1), .val (.int (0 : Int32)), .val (.ref a3), .val (.int (0 : Int32)), .val (.int (3 : Int32)), .unset, .unset] [] := by first | (simp [entryFrame, mkF, argsToLocals, Value.category]; done) | rfl
def Q8_3_0 (Z : State) (a1 : Addr) (a3 : Addr) (ar_a1 : Nat → Int32) (ar_a3 : Nat → Int32) (h0 : Heap) (n0 : Nat) (v : Option Value) (h : Heap) (L : List Loc) : Prop := v = some (.int (0 : Int32)) ∧ Fr n0 L ∧ h = h0
set_option maxRecDepth 65536 in
set_option maxHeartbeats 40000000 in
theorem rm8_3_0 (l : Launch) (Z : State) (a0 : Array Value) (hw : ∀ d ∈ tables_1, d.before a0 Z = true) (a1 : Addr) (a3 : Addr) (ar_a1 : Nat → Int32) (ar_a3 : Nat → Int32) (h0 : Heap) (n0 : Nat) (Zs : n0 ≤ h0.size) (hk : (255 : Int32) < (ar_a1 0)) (A_a1 : Afi Z h0 a1 .char 3 ar_a1) (E_a1 : Exa Z h0 a1 "[C") (A_a3 : Afi Z h0 a3 .byte 3 ar_a3) (E_a3 : Exa Z h0 a3 "[B") (g_a1 : n0 ≤ a1) (g_a3 : n0 ≤ a3) :
    Met1 l Z (⟨"java/lang/StringUTF16", "compress", "([CI[BII)I"⟩ : MethodName) jdk_52_method_21_code 7 (some .int) ({ frames := 0, cells := 0, slots := 0, locals := 0 } : Room) #[(.ref a1), (.int (0 : Int32)), (.ref a3), (.int (0 : Int32)), (.int (3 : Int32))] h0 (Q8_3_0 Z a1 a3 ar_a1 ar_a3 h0 n0) := by
  refine own_met_of (plainFor_of_name pn_33) (ef_8_3_0 a1 a3) ?_
  intro p e s m below meth c s₁ X hx hby hml hZ hown hnm hret hlk eT
  have hown : s.vm.findClass "java/lang/StringUTF16" = some m.cls := hown
  have N := Fr.nil n0
  have ne_a1_a3 : a1 ≠ a3 := ne_exa E_a1 E_a3 (by decide)
  refine own_iconst X hx hby (0 : Int32) d8_0 rfl 1 rfl ?_
  refine own_istore X hx hby d8_1 rfl (l' := #[.val (.ref a1), .val (.int (0 : Int32)), .val (.ref a3), .val (.int (0 : Int32)), .val (.int (3 : Int32)), .val (.int (0 : Int32)), .unset]) rfl 3 rfl ?_
  refine own_iload X hx hby (0 : Int32) d8_3 rfl 5 rfl ?_
  refine own_iload X hx hby (3 : Int32) d8_5 rfl 7 rfl ?_
  have c7 : (0 : Int32) < (3 : Int32) := by decide
  refine own_icmp_ge X hx hby d8_7 44 10 (by decide) rfl (fun q => absurd c7 q) (fun _ => ?_)
  refine own_aloadN X hx hby (.ref a1) d8_10 rfl rfl 11 rfl ?_
  refine own_iloadN X hx hby (0 : Int32) d8_11 rfl 12 rfl ?_
  refine own_caload X hx hby hZ (ar_a1 0) eT A_a1 (by decide) rfl d8_12 13 rfl ?_
  refine own_istore X hx hby d8_13 rfl (l' := #[.val (.ref a1), .val (.int (0 : Int32)), .val (.ref a3), .val (.int (0 : Int32)), .val (.int (3 : Int32)), .val (.int (0 : Int32)), .val (.int (ar_a1 0))]) rfl 15 rfl ?_
  refine own_iload X hx hby (ar_a1 0) d8_15 rfl 17 rfl ?_
  refine own_sipush X hx hby (255 : Int32) d8_17 rfl 20 rfl ?_
  have c20 : (255 : Int32) < (ar_a1 0) := hk
  refine own_icmp_le X hx hby d8_20 26 23 (by decide) rfl (fun q => absurd c20 q) (fun _ => ?_)
  refine own_iload X hx hby (0 : Int32) d8_23 rfl 25 rfl ?_
  refine own_retI X hx hby hret hlk d8_25 (by decide) (by decide) ?_
  rw [eT]
  exact ⟨rfl, N, rfl⟩
theorem ef_8_3_1 (a1 : Addr) (a3 : Addr) (m : MethodId) : entryFrame m #[(.ref a1), (.int (0 : Int32)), (.ref a3), (.int (0 : Int32)), (.int (3 : Int32))] 7 = mkF m 0 #[.val (.ref a1), .val (.int (0 : Int32)), .val (.ref a3), .val (.int (0 : Int32)), .val (.int (3 : Int32)), .unset, .unset] [] := by first | (simp [entryFrame, mkF, argsToLocals, Value.category]; done) | rfl
def Q8_3_1 (Z : State) (a1 : Addr) (a3 : Addr) (ar_a1 : Nat → Int32) (ar_a3 : Nat → Int32) (h0 : Heap) (n0 : Nat) (v : Option Value) (h : Heap) (L : List Loc) : Prop := v = some (.int (1 : Int32)) ∧ Fr n0 L ∧ Keep h0 h [a3] ∧ Afi Z h a3 .byte 3 (updI ar_a3 0 (nar .byte ((ar_a1 0).toInt8.toInt32))) ∧ Exa Z h a3 "[B"
set_option maxRecDepth 65536 in
set_option maxHeartbeats 40000000 in
theorem rm8_3_1 (l : Launch) (Z : State) (a0 : Array Value) (hw : ∀ d ∈ tables_1, d.before a0 Z = true) (a1 : Addr) (a3 : Addr) (ar_a1 : Nat → Int32) (ar_a3 : Nat → Int32) (h0 : Heap) (n0 : Nat) (Zs : n0 ≤ h0.size) (hc0 : ¬ (255 : Int32) < (ar_a1 0)) (hk : (255 : Int32) < (ar_a1 1)) (A_a1 : Afi Z h0 a1 .char 3 ar_a1) (E_a1 : Exa Z h0 a1 "[C") (A_a3 : Afi Z h0 a3 .byte 3 ar_a3) (E_a3 : Exa Z h0 a3 "[B") (g_a1 : n0 ≤ a1) (g_a3 : n0 ≤ a3) :
    Met1 l Z (⟨"java/lang/StringUTF16", "compress", "([CI[BII)I"⟩ : MethodName) jdk_52_method_21_code 7 (some .int) ({ frames := 0, cells := 0, slots := 0, locals := 0 } : Room) #[(.ref a1), (.int (0 : Int32)), (.ref a3), (.int (0 : Int32)), (.int (3 : Int32))] h0 (Q8_3_1 Z a1 a3 ar_a1 ar_a3 h0 n0) := by
  refine own_met_of (plainFor_of_name pn_33) (ef_8_3_1 a1 a3) ?_
  intro p e s m below meth c s₁ X hx hby hml hZ hown hnm hret hlk eT
  have hown : s.vm.findClass "java/lang/StringUTF16" = some m.cls := hown
  have N := Fr.nil n0
  have K := Keep.refl h0 [a3]
  have ne_a1_a3 : a1 ≠ a3 := ne_exa E_a1 E_a3 (by decide)
  refine own_iconst X hx hby (0 : Int32) d8_0 rfl 1 rfl ?_
  refine own_istore X hx hby d8_1 rfl (l' := #[.val (.ref a1), .val (.int (0 : Int32)), .val (.ref a3), .val (.int (0 : Int32)), .val (.int (3 : Int32)), .val (.int (0 : Int32)), .unset]) rfl 3 rfl ?_
  refine own_iload X hx hby (0 : Int32) d8_3 rfl 5 rfl ?_
  refine own_iload X hx hby (3 : Int32) d8_5 rfl 7 rfl ?_
  have c7 : (0 : Int32) < (3 : Int32) := by decide
  refine own_icmp_ge X hx hby d8_7 44 10 (by decide) rfl (fun q => absurd c7 q) (fun _ => ?_)
  refine own_aloadN X hx hby (.ref a1) d8_10 rfl rfl 11 rfl ?_
  refine own_iloadN X hx hby (0 : Int32) d8_11 rfl 12 rfl ?_
  refine own_caload X hx hby hZ (ar_a1 0) eT A_a1 (by decide) rfl d8_12 13 rfl ?_
  refine own_istore X hx hby d8_13 rfl (l' := #[.val (.ref a1), .val (.int (0 : Int32)), .val (.ref a3), .val (.int (0 : Int32)), .val (.int (3 : Int32)), .val (.int (0 : Int32)), .val (.int (ar_a1 0))]) rfl 15 rfl ?_
  refine own_iload X hx hby (ar_a1 0) d8_15 rfl 17 rfl ?_
  refine own_sipush X hx hby (255 : Int32) d8_17 rfl 20 rfl ?_
  have c20 : ¬ (255 : Int32) < (ar_a1 0) := hc0
  refine own_icmp_le X hx hby d8_20 26 23 (by decide) rfl (fun _ => ?_) (fun q => absurd q c20)
  refine own_aloadN X hx hby (.ref a3) d8_26 rfl rfl 27 rfl ?_
  refine own_iloadN X hx hby (0 : Int32) d8_27 rfl 28 rfl ?_
  refine own_iload X hx hby (ar_a1 0) d8_28 rfl 30 rfl ?_
  refine own_i2b X hx hby d8_30 31 rfl ?_
  refine own_bastore X hx hby hZ eT A_a3 (by decide) d8_31 32 rfl ?_
  intro T31 h31 X eT W A
  have A_a1 := A_a1.other W ne_a1_a3
  have E_a1 := E_a1.wr W
  have E_a3 := E_a3.wr W
  have A_a3 : Afi Z h31 a3 .byte 3 (updI ar_a3 0 (nar .byte ((ar_a1 0).toInt8.toInt32))) := A
  have N := Fr.snoc X N g_a3
  have K := K.wr W (Or.inl (List.mem_of_getElem? (i := 0) rfl))
  have Zs := Nat.le_trans Zs (Keep.of_wr W).1
  refine own_iinc X hx hby d8_32 (x := (0 : Int32)) rfl (by decide) (l' := #[.val (.ref a1), .val (.int (1 : Int32)), .val (.ref a3), .val (.int (0 : Int32)), .val (.int (3 : Int32)), .val (.int (0 : Int32)), .val (.int (ar_a1 0))]) rfl 35 rfl ?_
  refine own_iinc X hx hby d8_35 (x := (0 : Int32)) rfl (by decide) (l' := #[.val (.ref a1), .val (.int (1 : Int32)), .val (.ref a3), .val (.int (1 : Int32)), .val (.int (3 : Int32)), .val (.int (0 : Int32)), .val (.int (ar_a1 0))]) rfl 38 rfl ?_
  refine own_iinc X hx hby d8_38 (x := (0 : Int32)) rfl (by decide) (l' := #[.val (.ref a1), .val (.int (1 : Int32)), .val (.ref a3), .val (.int (1 : Int32)), .val (.int (3 : Int32)), .val (.int (1 : Int32)), .val (.int (ar_a1 0))]) rfl 41 rfl ?_
  refine own_goto X hx hby d8_41 3 (by decide) ?_
  refine own_iload X hx hby (1 : Int32) d8_3 rfl 5 rfl ?_
  refine own_iload X hx hby (3 : Int32) d8_5 rfl 7 rfl ?_
  have c7_2 : (1 : Int32) < (3 : Int32) := by decide
  refine own_icmp_ge X hx hby d8_7 44 10 (by decide) rfl (fun q => absurd c7_2 q) (fun _ => ?_)
  refine own_aloadN X hx hby (.ref a1) d8_10 rfl rfl 11 rfl ?_
  refine own_iloadN X hx hby (1 : Int32) d8_11 rfl 12 rfl ?_
  refine own_caload X hx hby hZ (ar_a1 1) eT A_a1 (by decide) rfl d8_12 13 rfl ?_
  refine own_istore X hx hby d8_13 rfl (l' := #[.val (.ref a1), .val (.int (1 : Int32)), .val (.ref a3), .val (.int (1 : Int32)), .val (.int (3 : Int32)), .val (.int (1 : Int32)), .val (.int (ar_a1 1))]) rfl 15 rfl ?_
  refine own_iload X hx hby (ar_a1 1) d8_15 rfl 17 rfl ?_
  refine own_sipush X hx hby (255 : Int32) d8_17 rfl 20 rfl ?_
  have c20_2 : (255 : Int32) < (ar_a1 1) := hk
  refine own_icmp_le X hx hby d8_20 26 23 (by decide) rfl (fun q => absurd c20_2 q) (fun _ => ?_)
  refine own_iload X hx hby (1 : Int32) d8_23 rfl 25 rfl ?_
  refine own_retI X hx hby hret hlk d8_25 (by decide) (by decide) ?_
  rw [eT]
  exact ⟨rfl, N, K, A_a3, E_a3⟩
theorem ef_8_3_2 (a1 : Addr) (a3 : Addr) (m : MethodId) : entryFrame m #[(.ref a1), (.int (0 : Int32)), (.ref a3), (.int (0 : Int32)), (.int (3 : Int32))] 7 = mkF m 0 #[.val (.ref a1), .val (.int (0 : Int32)), .val (.ref a3), .val (.int (0 : Int32)), .val (.int (3 : Int32)), .unset, .unset] [] := by first | (simp [entryFrame, mkF, argsToLocals, Value.category]; done) | rfl
def Q8_3_2 (Z : State) (a1 : Addr) (a3 : Addr) (ar_a1 : Nat → Int32) (ar_a3 : Nat → Int32) (h0 : Heap) (n0 : Nat) (v : Option Value) (h : Heap) (L : List Loc) : Prop := v = some (.int (2 : Int32)) ∧ Fr n0 L ∧ Keep h0 h [a3] ∧ Afi Z h a3 .byte 3 (updI (updI ar_a3 0 (nar .byte ((ar_a1 0).toInt8.toInt32))) 1 (nar .byte ((ar_a1 1).toInt8.toInt32))) ∧ Exa Z h a3 "[B"
set_option maxRecDepth 65536 in
set_option maxHeartbeats 40000000 in
theorem rm8_3_2 (l : Launch) (Z : State) (a0 : Array Value) (hw : ∀ d ∈ tables_1, d.before a0 Z = true) (a1 : Addr) (a3 : Addr) (ar_a1 : Nat → Int32) (ar_a3 : Nat → Int32) (h0 : Heap) (n0 : Nat) (Zs : n0 ≤ h0.size) (hc0 : ¬ (255 : Int32) < (ar_a1 0)) (hc1 : ¬ (255 : Int32) < (ar_a1 1)) (hk : (255 : Int32) < (ar_a1 2)) (A_a1 : Afi Z h0 a1 .char 3 ar_a1) (E_a1 : Exa Z h0 a1 "[C") (A_a3 : Afi Z h0 a3 .byte 3 ar_a3) (E_a3 : Exa Z h0 a3 "[B") (g_a1 : n0 ≤ a1) (g_a3 : n0 ≤ a3) :
    Met1 l Z (⟨"java/lang/StringUTF16", "compress", "([CI[BII)I"⟩ : MethodName) jdk_52_method_21_code 7 (some .int) ({ frames := 0, cells := 0, slots := 0, locals := 0 } : Room) #[(.ref a1), (.int (0 : Int32)), (.ref a3), (.int (0 : Int32)), (.int (3 : Int32))] h0 (Q8_3_2 Z a1 a3 ar_a1 ar_a3 h0 n0) := by
  refine own_met_of (plainFor_of_name pn_33) (ef_8_3_2 a1 a3) ?_
  intro p e s m below meth c s₁ X hx hby hml hZ hown hnm hret hlk eT
  have hown : s.vm.findClass "java/lang/StringUTF16" = some m.cls := hown
  have N := Fr.nil n0
  have K := Keep.refl h0 [a3]
  have ne_a1_a3 : a1 ≠ a3 := ne_exa E_a1 E_a3 (by decide)
  refine own_iconst X hx hby (0 : Int32) d8_0 rfl 1 rfl ?_
  refine own_istore X hx hby d8_1 rfl (l' := #[.val (.ref a1), .val (.int (0 : Int32)), .val (.ref a3), .val (.int (0 : Int32)), .val (.int (3 : Int32)), .val (.int (0 : Int32)), .unset]) rfl 3 rfl ?_
  refine own_iload X hx hby (0 : Int32) d8_3 rfl 5 rfl ?_
  refine own_iload X hx hby (3 : Int32) d8_5 rfl 7 rfl ?_
  have c7 : (0 : Int32) < (3 : Int32) := by decide
  refine own_icmp_ge X hx hby d8_7 44 10 (by decide) rfl (fun q => absurd c7 q) (fun _ => ?_)
  refine own_aloadN X hx hby (.ref a1) d8_10 rfl rfl 11 rfl ?_
  refine own_iloadN X hx hby (0 : Int32) d8_11 rfl 12 rfl ?_
  refine own_caload X hx hby hZ (ar_a1 0) eT A_a1 (by decide) rfl d8_12 13 rfl ?_
  refine own_istore X hx hby d8_13 rfl (l' := #[.val (.ref a1), .val (.int (0 : Int32)), .val (.ref a3), .val (.int (0 : Int32)), .val (.int (3 : Int32)), .val (.int (0 : Int32)), .val (.int (ar_a1 0))]) rfl 15 rfl ?_
  refine own_iload X hx hby (ar_a1 0) d8_15 rfl 17 rfl ?_
  refine own_sipush X hx hby (255 : Int32) d8_17 rfl 20 rfl ?_
  have c20 : ¬ (255 : Int32) < (ar_a1 0) := hc0
  refine own_icmp_le X hx hby d8_20 26 23 (by decide) rfl (fun _ => ?_) (fun q => absurd q c20)
  refine own_aloadN X hx hby (.ref a3) d8_26 rfl rfl 27 rfl ?_
  refine own_iloadN X hx hby (0 : Int32) d8_27 rfl 28 rfl ?_
  refine own_iload X hx hby (ar_a1 0) d8_28 rfl 30 rfl ?_
  refine own_i2b X hx hby d8_30 31 rfl ?_
  refine own_bastore X hx hby hZ eT A_a3 (by decide) d8_31 32 rfl ?_
  intro T31 h31 X eT W A
  have A_a1 := A_a1.other W ne_a1_a3
  have E_a1 := E_a1.wr W
  have E_a3 := E_a3.wr W
  have A_a3 : Afi Z h31 a3 .byte 3 (updI ar_a3 0 (nar .byte ((ar_a1 0).toInt8.toInt32))) := A
  have N := Fr.snoc X N g_a3
  have K := K.wr W (Or.inl (List.mem_of_getElem? (i := 0) rfl))
  have Zs := Nat.le_trans Zs (Keep.of_wr W).1
  refine own_iinc X hx hby d8_32 (x := (0 : Int32)) rfl (by decide) (l' := #[.val (.ref a1), .val (.int (1 : Int32)), .val (.ref a3), .val (.int (0 : Int32)), .val (.int (3 : Int32)), .val (.int (0 : Int32)), .val (.int (ar_a1 0))]) rfl 35 rfl ?_
  refine own_iinc X hx hby d8_35 (x := (0 : Int32)) rfl (by decide) (l' := #[.val (.ref a1), .val (.int (1 : Int32)), .val (.ref a3), .val (.int (1 : Int32)), .val (.int (3 : Int32)), .val (.int (0 : Int32)), .val (.int (ar_a1 0))]) rfl 38 rfl ?_
  refine own_iinc X hx hby d8_38 (x := (0 : Int32)) rfl (by decide) (l' := #[.val (.ref a1), .val (.int (1 : Int32)), .val (.ref a3), .val (.int (1 : Int32)), .val (.int (3 : Int32)), .val (.int (1 : Int32)), .val (.int (ar_a1 0))]) rfl 41 rfl ?_
  refine own_goto X hx hby d8_41 3 (by decide) ?_
  refine own_iload X hx hby (1 : Int32) d8_3 rfl 5 rfl ?_
  refine own_iload X hx hby (3 : Int32) d8_5 rfl 7 rfl ?_
  have c7_2 : (1 : Int32) < (3 : Int32) := by decide
  refine own_icmp_ge X hx hby d8_7 44 10 (by decide) rfl (fun q => absurd c7_2 q) (fun _ => ?_)
  refine own_aloadN X hx hby (.ref a1) d8_10 rfl rfl 11 rfl ?_
  refine own_iloadN X hx hby (1 : Int32) d8_11 rfl 12 rfl ?_
  refine own_caload X hx hby hZ (ar_a1 1) eT A_a1 (by decide) rfl d8_12 13 rfl ?_
  refine own_istore X hx hby d8_13 rfl (l' := #[.val (.ref a1), .val (.int (1 : Int32)), .val (.ref a3), .val (.int (1 : Int32)), .val (.int (3 : Int32)), .val (.int (1 : Int32)), .val (.int (ar_a1 1))]) rfl 15 rfl ?_
  refine own_iload X hx hby (ar_a1 1) d8_15 rfl 17 rfl ?_
  refine own_sipush X hx hby (255 : Int32) d8_17 rfl 20 rfl ?_
  have c20_2 : ¬ (255 : Int32) < (ar_a1 1) := hc1
  refine own_icmp_le X hx hby d8_20 26 23 (by decide) rfl (fun _ => ?_) (fun q => absurd q c20_2)
  refine own_aloadN X hx hby (.ref a3) d8_26 rfl rfl 27 rfl ?_
  refine own_iloadN X hx hby (1 : Int32) d8_27 rfl 28 rfl ?_
  refine own_iload X hx hby (ar_a1 1) d8_28 rfl 30 rfl ?_
  refine own_i2b X hx hby d8_30 31 rfl ?_
  refine own_bastore X hx hby hZ eT A_a3 (by decide) d8_31 32 rfl ?_
  intro T31 h31 X eT W A
  have A_a1 := A_a1.other W ne_a1_a3
  have E_a1 := E_a1.wr W
  have E_a3 := E_a3.wr W
  have A_a3 : Afi Z h31 a3 .byte 3 (updI (updI ar_a3 0 (nar .byte ((ar_a1 0).toInt8.toInt32))) 1 (nar .byte ((ar_a1 1).toInt8.toInt32))) := A
  have N := Fr.snoc X N g_a3
  have K := K.wr W (Or.inl (List.mem_of_getElem? (i := 0) rfl))
  have Zs := Nat.le_trans Zs (Keep.of_wr W).1
  refine own_iinc X hx hby d8_32 (x := (1 : Int32)) rfl (by decide) (l' := #[.val (.ref a1), .val (.int (2 : Int32)), .val (.ref a3), .val (.int (1 : Int32)), .val (.int (3 : Int32)), .val (.int (1 : Int32)), .val (.int (ar_a1 1))]) rfl 35 rfl ?_
  refine own_iinc X hx hby d8_35 (x := (1 : Int32)) rfl (by decide) (l' := #[.val (.ref a1), .val (.int (2 : Int32)), .val (.ref a3), .val (.int (2 : Int32)), .val (.int (3 : Int32)), .val (.int (1 : Int32)), .val (.int (ar_a1 1))]) rfl 38 rfl ?_
  refine own_iinc X hx hby d8_38 (x := (1 : Int32)) rfl (by decide) (l' := #[.val (.ref a1), .val (.int (2 : Int32)), .val (.ref a3), .val (.int (2 : Int32)), .val (.int (3 : Int32)), .val (.int (2 : Int32)), .val (.int (ar_a1 1))]) rfl 41 rfl ?_
  refine own_goto X hx hby d8_41 3 (by decide) ?_
  refine own_iload X hx hby (2 : Int32) d8_3 rfl 5 rfl ?_
  refine own_iload X hx hby (3 : Int32) d8_5 rfl 7 rfl ?_
  have c7_3 : (2 : Int32) < (3 : Int32) := by decide
  refine own_icmp_ge X hx hby d8_7 44 10 (by decide) rfl (fun q => absurd c7_3 q) (fun _ => ?_)
  refine own_aloadN X hx hby (.ref a1) d8_10 rfl rfl 11 rfl ?_
  refine own_iloadN X hx hby (2 : Int32) d8_11 rfl 12 rfl ?_
  refine own_caload X hx hby hZ (ar_a1 2) eT A_a1 (by decide) rfl d8_12 13 rfl ?_
  refine own_istore X hx hby d8_13 rfl (l' := #[.val (.ref a1), .val (.int (2 : Int32)), .val (.ref a3), .val (.int (2 : Int32)), .val (.int (3 : Int32)), .val (.int (2 : Int32)), .val (.int (ar_a1 2))]) rfl 15 rfl ?_
  refine own_iload X hx hby (ar_a1 2) d8_15 rfl 17 rfl ?_
  refine own_sipush X hx hby (255 : Int32) d8_17 rfl 20 rfl ?_
  have c20_3 : (255 : Int32) < (ar_a1 2) := hk
  refine own_icmp_le X hx hby d8_20 26 23 (by decide) rfl (fun q => absurd c20_3 q) (fun _ => ?_)
  refine own_iload X hx hby (2 : Int32) d8_23 rfl 25 rfl ?_
  refine own_retI X hx hby hret hlk d8_25 (by decide) (by decide) ?_
  rw [eT]
  exact ⟨rfl, N, K, A_a3, E_a3⟩
theorem ef_8_3_3 (a1 : Addr) (a3 : Addr) (m : MethodId) : entryFrame m #[(.ref a1), (.int (0 : Int32)), (.ref a3), (.int (0 : Int32)), (.int (3 : Int32))] 7 = mkF m 0 #[.val (.ref a1), .val (.int (0 : Int32)), .val (.ref a3), .val (.int (0 : Int32)), .val (.int (3 : Int32)), .unset, .unset] [] := by first | (simp [entryFrame, mkF, argsToLocals, Value.category]; done) | rfl
def Q8_3_3 (Z : State) (a1 : Addr) (a3 : Addr) (ar_a1 : Nat → Int32) (ar_a3 : Nat → Int32) (h0 : Heap) (n0 : Nat) (v : Option Value) (h : Heap) (L : List Loc) : Prop := v = some (.int (3 : Int32)) ∧ Fr n0 L ∧ Keep h0 h [a3] ∧ Afi Z h a3 .byte 3 (updI (updI (updI ar_a3 0 (nar .byte ((ar_a1 0).toInt8.toInt32))) 1 (nar .byte ((ar_a1 1).toInt8.toInt32))) 2 (nar .byte ((ar_a1 2).toInt8.toInt32))) ∧ Exa Z h a3 "[B"
set_option maxRecDepth 65536 in
set_option maxHeartbeats 40000000 in
theorem rm8_3_3 (l : Launch) (Z : State) (a0 : Array Value) (hw : ∀ d ∈ tables_1, d.before a0 Z = true) (a1 : Addr) (a3 : Addr) (ar_a1 : Nat → Int32) (ar_a3 : Nat → Int32) (h0 : Heap) (n0 : Nat) (Zs : n0 ≤ h0.size) (hc0 : ¬ (255 : Int32) < (ar_a1 0)) (hc1 : ¬ (255 : Int32) < (ar_a1 1)) (hc2 : ¬ (255 : Int32) < (ar_a1 2)) (A_a1 : Afi Z h0 a1 .char 3 ar_a1) (E_a1 : Exa Z h0 a1 "[C") (A_a3 : Afi Z h0 a3 .byte 3 ar_a3) (E_a3 : Exa Z h0 a3 "[B") (g_a1 : n0 ≤ a1) (g_a3 : n0 ≤ a3) :
    Met1 l Z (⟨"java/lang/StringUTF16", "compress", "([CI[BII)I"⟩ : MethodName) jdk_52_method_21_code 7 (some .int) ({ frames := 0, cells := 0, slots := 0, locals := 0 } : Room) #[(.ref a1), (.int (0 : Int32)), (.ref a3), (.int (0 : Int32)), (.int (3 : Int32))] h0 (Q8_3_3 Z a1 a3 ar_a1 ar_a3 h0 n0) := by
  refine own_met_of (plainFor_of_name pn_33) (ef_8_3_3 a1 a3) ?_
  intro p e s m below meth c s₁ X hx hby hml hZ hown hnm hret hlk eT
  have hown : s.vm.findClass "java/lang/StringUTF16" = some m.cls := hown
  have N := Fr.nil n0
  have K := Keep.refl h0 [a3]
  have ne_a1_a3 : a1 ≠ a3 := ne_exa E_a1 E_a3 (by decide)
  refine own_iconst X hx hby (0 : Int32) d8_0 rfl 1 rfl ?_
  refine own_istore X hx hby d8_1 rfl (l' := #[.val (.ref a1), .val (.int (0 : Int32)), .val (.ref a3), .val (.int (0 : Int32)), .val (.int (3 : Int32)), .val (.int (0 : Int32)), .unset]) rfl 3 rfl ?_
  refine own_iload X hx hby (0 : Int32) d8_3 rfl 5 rfl ?_
  refine own_iload X hx hby (3 : Int32) d8_5 rfl 7 rfl ?_
  have c7 : (0 : Int32) < (3 : Int32) := by decide
  refine own_icmp_ge X hx hby d8_7 44 10 (by decide) rfl (fun q => absurd c7 q) (fun _ => ?_)
  refine own_aloadN X hx hby (.ref a1) d8_10 rfl rfl 11 rfl ?_
  refine own_iloadN X hx hby (0 : Int32) d8_11 rfl 12 rfl ?_
  refine own_caload X hx hby hZ (ar_a1 0) eT A_a1 (by decide) rfl d8_12 13 rfl ?_
  refine own_istore X hx hby d8_13 rfl (l' := #[.val (.ref a1), .val (.int (0 : Int32)), .val (.ref a3), .val (.int (0 : Int32)), .val (.int (3 : Int32)), .val (.int (0 : Int32)), .val (.int (ar_a1 0))]) rfl 15 rfl ?_
  refine own_iload X hx hby (ar_a1 0) d8_15 rfl 17 rfl ?_
  refine own_sipush X hx hby (255 : Int32) d8_17 rfl 20 rfl ?_
  have c20 : ¬ (255 : Int32) < (ar_a1 0) := hc0
  refine own_icmp_le X hx hby d8_20 26 23 (by decide) rfl (fun _ => ?_) (fun q => absurd q c20)
  refine own_aloadN X hx hby (.ref a3) d8_26 rfl rfl 27 rfl ?_
  refine own_iloadN X hx hby (0 : Int32) d8_27 rfl 28 rfl ?_
  refine own_iload X hx hby (ar_a1 0) d8_28 rfl 30 rfl ?_
  refine own_i2b X hx hby d8_30 31 rfl ?_
  refine own_bastore X hx hby hZ eT A_a3 (by decide) d8_31 32 rfl ?_
  intro T31 h31 X eT W A
  have A_a1 := A_a1.other W ne_a1_a3
  have E_a1 := E_a1.wr W
  have E_a3 := E_a3.wr W
  have A_a3 : Afi Z h31 a3 .byte 3 (updI ar_a3 0 (nar .byte ((ar_a1 0).toInt8.toInt32))) := A
  have N := Fr.snoc X N g_a3
  have K := K.wr W (Or.inl (List.mem_of_getElem? (i := 0) rfl))
  have Zs := Nat.le_trans Zs (Keep.of_wr W).1
  refine own_iinc X hx hby d8_32 (x := (0 : Int32)) rfl (by decide) (l' := #[.val (.ref a1), .val (.int (1 : Int32)), .val (.ref a3), .val (.int (0 : Int32)), .val (.int (3 : Int32)), .val (.int (0 : Int32)), .val (.int (ar_a1 0))]) rfl 35 rfl ?_
  refine own_iinc X hx hby d8_35 (x := (0 : Int32)) rfl (by decide) (l' := #[.val (.ref a1), .val (.int (1 : Int32)), .val (.ref a3), .val (.int (1 : Int32)), .val (.int (3 : Int32)), .val (.int (0 : Int32)), .val (.int (ar_a1 0))]) rfl 38 rfl ?_
  refine own_iinc X hx hby d8_38 (x := (0 : Int32)) rfl (by decide) (l' := #[.val (.ref a1), .val (.int (1 : Int32)), .val (.ref a3), .val (.int (1 : Int32)), .val (.int (3 : Int32)), .val (.int (1 : Int32)), .val (.int (ar_a1 0))]) rfl 41 rfl ?_
  refine own_goto X hx hby d8_41 3 (by decide) ?_
  refine own_iload X hx hby (1 : Int32) d8_3 rfl 5 rfl ?_
  refine own_iload X hx hby (3 : Int32) d8_5 rfl 7 rfl ?_
  have c7_2 : (1 : Int32) < (3 : Int32) := by decide
  refine own_icmp_ge X hx hby d8_7 44 10 (by decide) rfl (fun q => absurd c7_2 q) (fun _ => ?_)
  refine own_aloadN X hx hby (.ref a1) d8_10 rfl rfl 11 rfl ?_
  refine own_iloadN X hx hby (1 : Int32) d8_11 rfl 12 rfl ?_
  refine own_caload X hx hby hZ (ar_a1 1) eT A_a1 (by decide) rfl d8_12 13 rfl ?_
  refine own_istore X hx hby d8_13 rfl (l' := #[.val (.ref a1), .val (.int (1 : Int32)), .val (.ref a3), .val (.int (1 : Int32)), .val (.int (3 : Int32)), .val (.int (1 : Int32)), .val (.int (ar_a1 1))]) rfl 15 rfl ?_
  refine own_iload X hx hby (ar_a1 1) d8_15 rfl 17 rfl ?_
  refine own_sipush X hx hby (255 : Int32) d8_17 rfl 20 rfl ?_
  have c20_2 : ¬ (255 : Int32) < (ar_a1 1) := hc1
  refine own_icmp_le X hx hby d8_20 26 23 (by decide) rfl (fun _ => ?_) (fun q => absurd q c20_2)
  refine own_aloadN X hx hby (.ref a3) d8_26 rfl rfl 27 rfl ?_
  refine own_iloadN X hx hby (1 : Int32) d8_27 rfl 28 rfl ?_
  refine own_iload X hx hby (ar_a1 1) d8_28 rfl 30 rfl ?_
  refine own_i2b X hx hby d8_30 31 rfl ?_
  refine own_bastore X hx hby hZ eT A_a3 (by decide) d8_31 32 rfl ?_
  intro T31 h31 X eT W A
  have A_a1 := A_a1.other W ne_a1_a3
  have E_a1 := E_a1.wr W
  have E_a3 := E_a3.wr W
  have A_a3 : Afi Z h31 a3 .byte 3 (updI (updI ar_a3 0 (nar .byte ((ar_a1 0).toInt8.toInt32))) 1 (nar .byte ((ar_a1 1).toInt8.toInt32))) := A
  have N := Fr.snoc X N g_a3
  have K := K.wr W (Or.inl (List.mem_of_getElem? (i := 0) rfl))
  have Zs := Nat.le_trans Zs (Keep.of_wr W).1
  refine own_iinc X hx hby d8_32 (x := (1 : Int32)) rfl (by decide) (l' := #[.val (.ref a1), .val (.int (2 : Int32)), .val (.ref a3), .val (.int (1 : Int32)), .val (.int (3 : Int32)), .val (.int (1 : Int32)), .val (.int (ar_a1 1))]) rfl 35 rfl ?_
  refine own_iinc X hx hby d8_35 (x := (1 : Int32)) rfl (by decide) (l' := #[.val (.ref a1), .val (.int (2 : Int32)), .val (.ref a3), .val (.int (2 : Int32)), .val (.int (3 : Int32)), .val (.int (1 : Int32)), .val (.int (ar_a1 1))]) rfl 38 rfl ?_
  refine own_iinc X hx hby d8_38 (x := (1 : Int32)) rfl (by decide) (l' := #[.val (.ref a1), .val (.int (2 : Int32)), .val (.ref a3), .val (.int (2 : Int32)), .val (.int (3 : Int32)), .val (.int (2 : Int32)), .val (.int (ar_a1 1))]) rfl 41 rfl ?_
  refine own_goto X hx hby d8_41 3 (by decide) ?_
  refine own_iload X hx hby (2 : Int32) d8_3 rfl 5 rfl ?_
  refine own_iload X hx hby (3 : Int32) d8_5 rfl 7 rfl ?_
  have c7_3 : (2 : Int32) < (3 : Int32) := by decide
  refine own_icmp_ge X hx hby d8_7 44 10 (by decide) rfl (fun q => absurd c7_3 q) (fun _ => ?_)
  refine own_aloadN X hx hby (.ref a1) d8_10 rfl rfl 11 rfl ?_
  refine own_iloadN X hx hby (2 : Int32) d8_11 rfl 12 rfl ?_
  refine own_caload X hx hby hZ (ar_a1 2) eT A_a1 (by decide) rfl d8_12 13 rfl ?_
  refine own_istore X hx hby d8_13 rfl (l' := #[.val (.ref a1), .val (.int (2 : Int32)), .val (.ref a3), .val (.int (2 : Int32)), .val (.int (3 : Int32)), .val (.int (2 : Int32)), .val (.int (ar_a1 2))]) rfl 15 rfl ?_
  refine own_iload X hx hby (ar_a1 2) d8_15 rfl 17 rfl ?_
  refine own_sipush X hx hby (255 : Int32) d8_17 rfl 20 rfl ?_
  have c20_3 : ¬ (255 : Int32) < (ar_a1 2) := hc2
  refine own_icmp_le X hx hby d8_20 26 23 (by decide) rfl (fun _ => ?_) (fun q => absurd q c20_3)
  refine own_aloadN X hx hby (.ref a3) d8_26 rfl rfl 27 rfl ?_
  refine own_iloadN X hx hby (2 : Int32) d8_27 rfl 28 rfl ?_
  refine own_iload X hx hby (ar_a1 2) d8_28 rfl 30 rfl ?_
  refine own_i2b X hx hby d8_30 31 rfl ?_
  refine own_bastore X hx hby hZ eT A_a3 (by decide) d8_31 32 rfl ?_
  intro T31 h31 X eT W A
  have A_a1 := A_a1.other W ne_a1_a3
  have E_a1 := E_a1.wr W
  have E_a3 := E_a3.wr W
  have A_a3 : Afi Z h31 a3 .byte 3 (updI (updI (updI ar_a3 0 (nar .byte ((ar_a1 0).toInt8.toInt32))) 1 (nar .byte ((ar_a1 1).toInt8.toInt32))) 2 (nar .byte ((ar_a1 2).toInt8.toInt32))) := A
  have N := Fr.snoc X N g_a3
  have K := K.wr W (Or.inl (List.mem_of_getElem? (i := 0) rfl))
  have Zs := Nat.le_trans Zs (Keep.of_wr W).1
  refine own_iinc X hx hby d8_32 (x := (2 : Int32)) rfl (by decide) (l' := #[.val (.ref a1), .val (.int (3 : Int32)), .val (.ref a3), .val (.int (2 : Int32)), .val (.int (3 : Int32)), .val (.int (2 : Int32)), .val (.int (ar_a1 2))]) rfl 35 rfl ?_
  refine own_iinc X hx hby d8_35 (x := (2 : Int32)) rfl (by decide) (l' := #[.val (.ref a1), .val (.int (3 : Int32)), .val (.ref a3), .val (.int (3 : Int32)), .val (.int (3 : Int32)), .val (.int (2 : Int32)), .val (.int (ar_a1 2))]) rfl 38 rfl ?_
  refine own_iinc X hx hby d8_38 (x := (2 : Int32)) rfl (by decide) (l' := #[.val (.ref a1), .val (.int (3 : Int32)), .val (.ref a3), .val (.int (3 : Int32)), .val (.int (3 : Int32)), .val (.int (3 : Int32)), .val (.int (ar_a1 2))]) rfl 41 rfl ?_
  refine own_goto X hx hby d8_41 3 (by decide) ?_
  refine own_iload X hx hby (3 : Int32) d8_3 rfl 5 rfl ?_
  refine own_iload X hx hby (3 : Int32) d8_5 rfl 7 rfl ?_
  have c7_4 : ¬ (3 : Int32) < (3 : Int32) := by decide
  refine own_icmp_ge X hx hby d8_7 44 10 (by decide) rfl (fun _ => ?_) (fun q => absurd q c7_4)
  refine own_iload X hx hby (3 : Int32) d8_44 rfl 46 rfl ?_
  refine own_retI X hx hby hret hlk d8_46 (by decide) (by decide) ?_
  rw [eT]
  exact ⟨rfl, N, K, A_a3, E_a3⟩
theorem ef_8_4_0 (a1 : Addr) (a3 : Addr) (m : MethodId) : entryFrame m #[(.ref a1), (.int (0 : Int32)), (.ref a3), (.int (0 : Int32)), (.int (4 : Int32))] 7 = mkF m 0 #[.val (.ref a1), .val (.int (0 : Int32)), .val (.ref a3), .val (.int (0 : Int32)), .val (.int (4 : Int32)), .unset, .unset] [] := by first | (simp [entryFrame, mkF, argsToLocals, Value.category]; done) | rfl
def Q8_4_0 (Z : State) (a1 : Addr) (a3 : Addr) (ar_a1 : Nat → Int32) (ar_a3 : Nat → Int32) (h0 : Heap) (n0 : Nat) (v : Option Value) (h : Heap) (L : List Loc) : Prop := v = some (.int (0 : Int32)) ∧ Fr n0 L ∧ h = h0
set_option maxRecDepth 65536 in
set_option maxHeartbeats 40000000 in
theorem rm8_4_0 (l : Launch) (Z : State) (a0 : Array Value) (hw : ∀ d ∈ tables_1, d.before a0 Z = true) (a1 : Addr) (a3 : Addr) (ar_a1 : Nat → Int32) (ar_a3 : Nat → Int32) (h0 : Heap) (n0 : Nat) (Zs : n0 ≤ h0.size) (hk : (255 : Int32) < (ar_a1 0)) (A_a1 : Afi Z h0 a1 .char 4 ar_a1) (E_a1 : Exa Z h0 a1 "[C") (A_a3 : Afi Z h0 a3 .byte 4 ar_a3) (E_a3 : Exa Z h0 a3 "[B") (g_a1 : n0 ≤ a1) (g_a3 : n0 ≤ a3) :
    Met1 l Z (⟨"java/lang/StringUTF16", "compress", "([CI[BII)I"⟩ : MethodName) jdk_52_method_21_code 7 (some .int) ({ frames := 0, cells := 0, slots := 0, locals := 0 } : Room) #[(.ref a1), (.int (0 : Int32)), (.ref a3), (.int (0 : Int32)), (.int (4 : Int32))] h0 (Q8_4_0 Z a1 a3 ar_a1 ar_a3 h0 n0) := by
  refine own_met_of (plainFor_of_name pn_33) (ef_8_4_0 a1 a3) ?_
  intro p e s m below meth c s₁ X hx hby hml hZ hown hnm hret hlk eT
  have hown : s.vm.findClass "java/lang/StringUTF16" = some m.cls := hown
  have N := Fr.nil n0
  have ne_a1_a3 : a1 ≠ a3 := ne_exa E_a1 E_a3 (by decide)
  refine own_iconst X hx hby (0 : Int32) d8_0 rfl 1 rfl ?_
  refine own_istore X hx hby d8_1 rfl (l' := #[.val (.ref a1), .val (.int (0 : Int32)), .val (.ref a3), .val (.int (0 : Int32)), .val (.int (4 : Int32)), .val (.int (0 : Int32)), .unset]) rfl 3 rfl ?_
  refine own_iload X hx hby (0 : Int32) d8_3 rfl 5 rfl ?_
  refine own_iload X hx hby (4 : Int32) d8_5 rfl 7 rfl ?_
  have c7 : (0 : Int32) < (4 : Int32) := by decide
  refine own_icmp_ge X hx hby d8_7 44 10 (by decide) rfl (fun q => absurd c7 q) (fun _ => ?_)
  refine own_aloadN X hx hby (.ref a1) d8_10 rfl rfl 11 rfl ?_
  refine own_iloadN X hx hby (0 : Int32) d8_11 rfl 12 rfl ?_
  refine own_caload X hx hby hZ (ar_a1 0) eT A_a1 (by decide) rfl d8_12 13 rfl ?_
  refine own_istore X hx hby d8_13 rfl (l' := #[.val (.ref a1), .val (.int (0 : Int32)), .val (.ref a3), .val (.int (0 : Int32)), .val (.int (4 : Int32)), .val (.int (0 : Int32)), .val (.int (ar_a1 0))]) rfl 15 rfl ?_
  refine own_iload X hx hby (ar_a1 0) d8_15 rfl 17 rfl ?_
  refine own_sipush X hx hby (255 : Int32) d8_17 rfl 20 rfl ?_
  have c20 : (255 : Int32) < (ar_a1 0) := hk
  refine own_icmp_le X hx hby d8_20 26 23 (by decide) rfl (fun q => absurd c20 q) (fun _ => ?_)
  refine own_iload X hx hby (0 : Int32) d8_23 rfl 25 rfl ?_
  refine own_retI X hx hby hret hlk d8_25 (by decide) (by decide) ?_
  rw [eT]
  exact ⟨rfl, N, rfl⟩
theorem ef_8_4_1 (a1 : Addr) (a3 : Addr) (m : MethodId) : entryFrame m #[(.ref a1), (.int (0 : Int32)), (.ref a3), (.int (0 : Int32)), (.int (4 : Int32))] 7 = mkF m 0 #[.val (.ref a1), .val (.int (0 : Int32)), .val (.ref a3), .val (.int (0 : Int32)), .val (.int (4 : Int32)), .unset, .unset] [] := by first | (simp [entryFrame, mkF, argsToLocals, Value.category]; done) | rfl
def Q8_4_1 (Z : State) (a1 : Addr) (a3 : Addr) (ar_a1 : Nat → Int32) (ar_a3 : Nat → Int32) (h0 : Heap) (n0 : Nat) (v : Option Value) (h : Heap) (L : List Loc) : Prop := v = some (.int (1 : Int32)) ∧ Fr n0 L ∧ Keep h0 h [a3] ∧ Afi Z h a3 .byte 4 (updI ar_a3 0 (nar .byte ((ar_a1 0).toInt8.toInt32))) ∧ Exa Z h a3 "[B"
set_option maxRecDepth 65536 in
set_option maxHeartbeats 40000000 in
theorem rm8_4_1 (l : Launch) (Z : State) (a0 : Array Value) (hw : ∀ d ∈ tables_1, d.before a0 Z = true) (a1 : Addr) (a3 : Addr) (ar_a1 : Nat → Int32) (ar_a3 : Nat → Int32) (h0 : Heap) (n0 : Nat) (Zs : n0 ≤ h0.size) (hc0 : ¬ (255 : Int32) < (ar_a1 0)) (hk : (255 : Int32) < (ar_a1 1)) (A_a1 : Afi Z h0 a1 .char 4 ar_a1) (E_a1 : Exa Z h0 a1 "[C") (A_a3 : Afi Z h0 a3 .byte 4 ar_a3) (E_a3 : Exa Z h0 a3 "[B") (g_a1 : n0 ≤ a1) (g_a3 : n0 ≤ a3) :
    Met1 l Z (⟨"java/lang/StringUTF16", "compress", "([CI[BII)I"⟩ : MethodName) jdk_52_method_21_code 7 (some .int) ({ frames := 0, cells := 0, slots := 0, locals := 0 } : Room) #[(.ref a1), (.int (0 : Int32)), (.ref a3), (.int (0 : Int32)), (.int (4 : Int32))] h0 (Q8_4_1 Z a1 a3 ar_a1 ar_a3 h0 n0) := by
  refine own_met_of (plainFor_of_name pn_33) (ef_8_4_1 a1 a3) ?_
  intro p e s m below meth c s₁ X hx hby hml hZ hown hnm hret hlk eT
  have hown : s.vm.findClass "java/lang/StringUTF16" = some m.cls := hown
  have N := Fr.nil n0
  have K := Keep.refl h0 [a3]
  have ne_a1_a3 : a1 ≠ a3 := ne_exa E_a1 E_a3 (by decide)
  refine own_iconst X hx hby (0 : Int32) d8_0 rfl 1 rfl ?_
  refine own_istore X hx hby d8_1 rfl (l' := #[.val (.ref a1), .val (.int (0 : Int32)), .val (.ref a3), .val (.int (0 : Int32)), .val (.int (4 : Int32)), .val (.int (0 : Int32)), .unset]) rfl 3 rfl ?_
  refine own_iload X hx hby (0 : Int32) d8_3 rfl 5 rfl ?_
  refine own_iload X hx hby (4 : Int32) d8_5 rfl 7 rfl ?_
  have c7 : (0 : Int32) < (4 : Int32) := by decide
  refine own_icmp_ge X hx hby d8_7 44 10 (by decide) rfl (fun q => absurd c7 q) (fun _ => ?_)
  refine own_aloadN X hx hby (.ref a1) d8_10 rfl rfl 11 rfl ?_
  refine own_iloadN X hx hby (0 : Int32) d8_11 rfl 12 rfl ?_
  refine own_caload X hx hby hZ (ar_a1 0) eT A_a1 (by decide) rfl d8_12 13 rfl ?_
  refine own_istore X hx hby d8_13 rfl (l' := #[.val (.ref a1), .val (.int (0 : Int32)), .val (.ref a3), .val (.int (0 : Int32)), .val (.int (4 : Int32)), .val (.int (0 : Int32)), .val (.int (ar_a1 0))]) rfl 15 rfl ?_
  refine own_iload X hx hby (ar_a1 0) d8_15 rfl 17 rfl ?_
  refine own_sipush X hx hby (255 : Int32) d8_17 rfl 20 rfl ?_
  have c20 : ¬ (255 : Int32) < (ar_a1 0) := hc0
  refine own_icmp_le X hx hby d8_20 26 23 (by decide) rfl (fun _ => ?_) (fun q => absurd q c20)
  refine own_aloadN X hx hby (.ref a3) d8_26 rfl rfl 27 rfl ?_
  refine own_iloadN X hx hby (0 : Int32) d8_27 rfl 28 rfl ?_
  refine own_iload X hx hby (ar_a1 0) d8_28 rfl 30 rfl ?_
  refine own_i2b X hx hby d8_30 31 rfl ?_
  refine own_bastore X hx hby hZ eT A_a3 (by decide) d8_31 32 rfl ?_
  intro T31 h31 X eT W A
  have A_a1 := A_a1.other W ne_a1_a3
  have E_a1 := E_a1.wr W
  have E_a3 := E_a3.wr W
  have A_a3 : Afi Z h31 a3 .byte 4 (updI ar_a3 0 (nar .byte ((ar_a1 0).toInt8.toInt32))) := A
  have N := Fr.snoc X N g_a3
  have K := K.wr W (Or.inl (List.mem_of_getElem? (i := 0) rfl))
  have Zs := Nat.le_trans Zs (Keep.of_wr W).1
  refine own_iinc X hx hby d8_32 (x := (0 : Int32)) rfl (by decide) (l' := #[.val (.ref a1), .val (.int (1 : Int32)), .val (.ref a3), .val (.int (0 : Int32)), .val (.int (4 : Int32)), .val (.int (0 : Int32)), .val (.int (ar_a1 0))]) rfl 35 rfl ?_
  refine own_iinc X hx hby d8_35 (x := (0 : Int32)) rfl (by decide) (l' := #[.val (.ref a1), .val (.int (1 : Int32)), .val (.ref a3), .val (.int (1 : Int32)), .val (.int (4 : Int32)), .val (.int (0 : Int32)), .val (.int (ar_a1 0))]) rfl 38 rfl ?_
  refine own_iinc X hx hby d8_38 (x := (0 : Int32)) rfl (by decide) (l' := #[.val (.ref a1), .val (.int (1 : Int32)), .val (.ref a3), .val (.int (1 : Int32)), .val (.int (4 : Int32)), .val (.int (1 : Int32)), .val (.int (ar_a1 0))]) rfl 41 rfl ?_
  refine own_goto X hx hby d8_41 3 (by decide) ?_
  refine own_iload X hx hby (1 : Int32) d8_3 rfl 5 rfl ?_
  refine own_iload X hx hby (4 : Int32) d8_5 rfl 7 rfl ?_
  have c7_2 : (1 : Int32) < (4 : Int32) := by decide
  refine own_icmp_ge X hx hby d8_7 44 10 (by decide) rfl (fun q => absurd c7_2 q) (fun _ => ?_)
  refine own_aloadN X hx hby (.ref a1) d8_10 rfl rfl 11 rfl ?_
  refine own_iloadN X hx hby (1 : Int32) d8_11 rfl 12 rfl ?_
  refine own_caload X hx hby hZ (ar_a1 1) eT A_a1 (by decide) rfl d8_12 13 rfl ?_
  refine own_istore X hx hby d8_13 rfl (l' := #[.val (.ref a1), .val (.int (1 : Int32)), .val (.ref a3), .val (.int (1 : Int32)), .val (.int (4 : Int32)), .val (.int (1 : Int32)), .val (.int (ar_a1 1))]) rfl 15 rfl ?_
  refine own_iload X hx hby (ar_a1 1) d8_15 rfl 17 rfl ?_
  refine own_sipush X hx hby (255 : Int32) d8_17 rfl 20 rfl ?_
  have c20_2 : (255 : Int32) < (ar_a1 1) := hk
  refine own_icmp_le X hx hby d8_20 26 23 (by decide) rfl (fun q => absurd c20_2 q) (fun _ => ?_)
  refine own_iload X hx hby (1 : Int32) d8_23 rfl 25 rfl ?_
  refine own_retI X hx hby hret hlk d8_25 (by decide) (by decide) ?_
  rw [eT]
  exact ⟨rfl, N, K, A_a3, E_a3⟩
theorem ef_8_4_2 (a1 : Addr) (a3 : Addr) (m : MethodId) : entryFrame m #[(.ref a1), (.int (0 : Int32)), (.ref a3), (.int (0 : Int32)), (.int (4 : Int32))] 7 = mkF m 0 #[.val (.ref a1), .val (.int (0 : Int32)), .val (.ref a3), .val (.int (0 : Int32)), .val (.int (4 : Int32)), .unset, .unset] [] := by first | (simp [entryFrame, mkF, argsToLocals, Value.category]; done) | rfl
def Q8_4_2 (Z : State) (a1 : Addr) (a3 : Addr) (ar_a1 : Nat → Int32) (ar_a3 : Nat → Int32) (h0 : Heap) (n0 : Nat) (v : Option Value) (h : Heap) (L : List Loc) : Prop := v = some (.int (2 : Int32)) ∧ Fr n0 L ∧ Keep h0 h [a3] ∧ Afi Z h a3 .byte 4 (updI (updI ar_a3 0 (nar .byte ((ar_a1 0).toInt8.toInt32))) 1 (nar .byte ((ar_a1 1).toInt8.toInt32))) ∧ Exa Z h a3 "[B"
set_option maxRecDepth 65536 in
set_option maxHeartbeats 40000000 in
theorem rm8_4_2 (l : Launch) (Z : State) (a0 : Array Value) (hw : ∀ d ∈ tables_1, d.before a0 Z = true) (a1 : Addr) (a3 : Addr) (ar_a1 : Nat → Int32) (ar_a3 : Nat → Int32) (h0 : Heap) (n0 : Nat) (Zs : n0 ≤ h0.size) (hc0 : ¬ (255 : Int32) < (ar_a1 0)) (hc1 : ¬ (255 : Int32) < (ar_a1 1)) (hk : (255 : Int32) < (ar_a1 2)) (A_a1 : Afi Z h0 a1 .char 4 ar_a1) (E_a1 : Exa Z h0 a1 "[C") (A_a3 : Afi Z h0 a3 .byte 4 ar_a3) (E_a3 : Exa Z h0 a3 "[B") (g_a1 : n0 ≤ a1) (g_a3 : n0 ≤ a3) :
    Met1 l Z (⟨"java/lang/StringUTF16", "compress", "([CI[BII)I"⟩ : MethodName) jdk_52_method_21_code 7 (some .int) ({ frames := 0, cells := 0, slots := 0, locals := 0 } : Room) #[(.ref a1), (.int (0 : Int32)), (.ref a3), (.int (0 : Int32)), (.int (4 : Int32))] h0 (Q8_4_2 Z a1 a3 ar_a1 ar_a3 h0 n0) := by
  refine own_met_of (plainFor_of_name pn_33) (ef_8_4_2 a1 a3) ?_
  intro p e s m below meth c s₁ X hx hby hml hZ hown hnm hret hlk eT
  have hown : s.vm.findClass "java/lang/StringUTF16" = some m.cls := hown
  have N := Fr.nil n0
  have K := Keep.refl h0 [a3]
  have ne_a1_a3 : a1 ≠ a3 := ne_exa E_a1 E_a3 (by decide)
  refine own_iconst X hx hby (0 : Int32) d8_0 rfl 1 rfl ?_
  refine own_istore X hx hby d8_1 rfl (l' := #[.val (.ref a1), .val (.int (0 : Int32)), .val (.ref a3), .val (.int (0 : Int32)), .val (.int (4 : Int32)), .val (.int (0 : Int32)), .unset]) rfl 3 rfl ?_
  refine own_iload X hx hby (0 : Int32) d8_3 rfl 5 rfl ?_
  refine own_iload X hx hby (4 : Int32) d8_5 rfl 7 rfl ?_
  have c7 : (0 : Int32) < (4 : Int32) := by decide
  refine own_icmp_ge X hx hby d8_7 44 10 (by decide) rfl (fun q => absurd c7 q) (fun _ => ?_)
  refine own_aloadN X hx hby (.ref a1) d8_10 rfl rfl 11 rfl ?_
  refine own_iloadN X hx hby (0 : Int32) d8_11 rfl 12 rfl ?_
  refine own_caload X hx hby hZ (ar_a1 0) eT A_a1 (by decide) rfl d8_12 13 rfl ?_
  refine own_istore X hx hby d8_13 rfl (l' := #[.val (.ref a1), .val (.int (0 : Int32)), .val (.ref a3), .val (.int (0 : Int32)), .val (.int (4 : Int32)), .val (.int (0 : Int32)), .val (.int (ar_a1 0))]) rfl 15 rfl ?_
  refine own_iload X hx hby (ar_a1 0) d8_15 rfl 17 rfl ?_
  refine own_sipush X hx hby (255 : Int32) d8_17 rfl 20 rfl ?_
  have c20 : ¬ (255 : Int32) < (ar_a1 0) := hc0
  refine own_icmp_le X hx hby d8_20 26 23 (by decide) rfl (fun _ => ?_) (fun q => absurd q c20)
  refine own_aloadN X hx hby (.ref a3) d8_26 rfl rfl 27 rfl ?_
  refine own_iloadN X hx hby (0 : Int32) d8_27 rfl 28 rfl ?_
  refine own_iload X hx hby (ar_a1 0) d8_28 rfl 30 rfl ?_
  refine own_i2b X hx hby d8_30 31 rfl ?_
  refine own_bastore X hx hby hZ eT A_a3 (by decide) d8_31 32 rfl ?_
  intro T31 h31 X eT W A
  have A_a1 := A_a1.other W ne_a1_a3
  have E_a1 := E_a1.wr W
  have E_a3 := E_a3.wr W
  have A_a3 : Afi Z h31 a3 .byte 4 (updI ar_a3 0 (nar .byte ((ar_a1 0).toInt8.toInt32))) := A
  have N := Fr.snoc X N g_a3
  have K := K.wr W (Or.inl (List.mem_of_getElem? (i := 0) rfl))
  have Zs := Nat.le_trans Zs (Keep.of_wr W).1
  refine own_iinc X hx hby d8_32 (x := (0 : Int32)) rfl (by decide) (l' := #[.val (.ref a1), .val (.int (1 : Int32)), .val (.ref a3), .val (.int (0 : Int32)), .val (.int (4 : Int32)), .val (.int (0 : Int32)), .val (.int (ar_a1 0))]) rfl 35 rfl ?_
  refine own_iinc X hx hby d8_35 (x := (0 : Int32)) rfl (by decide) (l' := #[.val (.ref a1), .val (.int (1 : Int32)), .val (.ref a3), .val (.int (1 : Int32)), .val (.int (4 : Int32)), .val (.int (0 : Int32)), .val (.int (ar_a1 0))]) rfl 38 rfl ?_
  refine own_iinc X hx hby d8_38 (x := (0 : Int32)) rfl (by decide) (l' := #[.val (.ref a1), .val (.int (1 : Int32)), .val (.ref a3), .val (.int (1 : Int32)), .val (.int (4 : Int32)), .val (.int (1 : Int32)), .val (.int (ar_a1 0))]) rfl 41 rfl ?_
  refine own_goto X hx hby d8_41 3 (by decide) ?_
  refine own_iload X hx hby (1 : Int32) d8_3 rfl 5 rfl ?_
  refine own_iload X hx hby (4 : Int32) d8_5 rfl 7 rfl ?_
  have c7_2 : (1 : Int32) < (4 : Int32) := by decide
  refine own_icmp_ge X hx hby d8_7 44 10 (by decide) rfl (fun q => absurd c7_2 q) (fun _ => ?_)
  refine own_aloadN X hx hby (.ref a1) d8_10 rfl rfl 11 rfl ?_
  refine own_iloadN X hx hby (1 : Int32) d8_11 rfl 12 rfl ?_
  refine own_caload X hx hby hZ (ar_a1 1) eT A_a1 (by decide) rfl d8_12 13 rfl ?_
  refine own_istore X hx hby d8_13 rfl (l' := #[.val (.ref a1), .val (.int (1 : Int32)), .val (.ref a3), .val (.int (1 : Int32)), .val (.int (4 : Int32)), .val (.int (1 : Int32)), .val (.int (ar_a1 1))]) rfl 15 rfl ?_
  refine own_iload X hx hby (ar_a1 1) d8_15 rfl 17 rfl ?_
  refine own_sipush X hx hby (255 : Int32) d8_17 rfl 20 rfl ?_
  have c20_2 : ¬ (255 : Int32) < (ar_a1 1) := hc1
  refine own_icmp_le X hx hby d8_20 26 23 (by decide) rfl (fun _ => ?_) (fun q => absurd q c20_2)
  refine own_aloadN X hx hby (.ref a3) d8_26 rfl rfl 27 rfl ?_
  refine own_iloadN X hx hby (1 : Int32) d8_27 rfl 28 rfl ?_
  refine own_iload X hx hby (ar_a1 1) d8_28 rfl 30 rfl ?_
  refine own_i2b X hx hby d8_30 31 rfl ?_
  refine own_bastore X hx hby hZ eT A_a3 (by decide) d8_31 32 rfl ?_
  intro T31 h31 X eT W A
  have A_a1 := A_a1.other W ne_a1_a3
  have E_a1 := E_a1.wr W
  have E_a3 := E_a3.wr W
  have A_a3 : Afi Z h31 a3 .byte 4 (updI (updI ar_a3 0 (nar .byte ((ar_a1 0).toInt8.toInt32))) 1 (nar .byte ((ar_a1 1).toInt8.toInt32))) := A
  have N := Fr.snoc X N g_a3
  have K := K.wr W (Or.inl (List.mem_of_getElem? (i := 0) rfl))
  have Zs := Nat.le_trans Zs (Keep.of_wr W).1
  refine own_iinc X hx hby d8_32 (x := (1 : Int32)) rfl (by decide) (l' := #[.val (.ref a1), .val (.int (2 : Int32)), .val (.ref a3), .val (.int (1 : Int32)), .val (.int (4 : Int32)), .val (.int (1 : Int32)), .val (.int (ar_a1 1))]) rfl 35 rfl ?_
  refine own_iinc X hx hby d8_35 (x := (1 : Int32)) rfl (by decide) (l' := #[.val (.ref a1), .val (.int (2 : Int32)), .val (.ref a3), .val (.int (2 : Int32)), .val (.int (4 : Int32)), .val (.int (1 : Int32)), .val (.int (ar_a1 1))]) rfl 38 rfl ?_
  refine own_iinc X hx hby d8_38 (x := (1 : Int32)) rfl (by decide) (l' := #[.val (.ref a1), .val (.int (2 : Int32)), .val (.ref a3), .val (.int (2 : Int32)), .val (.int (4 : Int32)), .val (.int (2 : Int32)), .val (.int (ar_a1 1))]) rfl 41 rfl ?_
  refine own_goto X hx hby d8_41 3 (by decide) ?_
  refine own_iload X hx hby (2 : Int32) d8_3 rfl 5 rfl ?_
  refine own_iload X hx hby (4 : Int32) d8_5 rfl 7 rfl ?_
  have c7_3 : (2 : Int32) < (4 : Int32) := by decide
  refine own_icmp_ge X hx hby d8_7 44 10 (by decide) rfl (fun q => absurd c7_3 q) (fun _ => ?_)
  refine own_aloadN X hx hby (.ref a1) d8_10 rfl rfl 11 rfl ?_
  refine own_iloadN X hx hby (2 : Int32) d8_11 rfl 12 rfl ?_
  refine own_caload X hx hby hZ (ar_a1 2) eT A_a1 (by decide) rfl d8_12 13 rfl ?_
  refine own_istore X hx hby d8_13 rfl (l' := #[.val (.ref a1), .val (.int (2 : Int32)), .val (.ref a3), .val (.int (2 : Int32)), .val (.int (4 : Int32)), .val (.int (2 : Int32)), .val (.int (ar_a1 2))]) rfl 15 rfl ?_
  refine own_iload X hx hby (ar_a1 2) d8_15 rfl 17 rfl ?_
  refine own_sipush X hx hby (255 : Int32) d8_17 rfl 20 rfl ?_
  have c20_3 : (255 : Int32) < (ar_a1 2) := hk
  refine own_icmp_le X hx hby d8_20 26 23 (by decide) rfl (fun q => absurd c20_3 q) (fun _ => ?_)
  refine own_iload X hx hby (2 : Int32) d8_23 rfl 25 rfl ?_
  refine own_retI X hx hby hret hlk d8_25 (by decide) (by decide) ?_
  rw [eT]
  exact ⟨rfl, N, K, A_a3, E_a3⟩
theorem ef_8_4_3 (a1 : Addr) (a3 : Addr) (m : MethodId) : entryFrame m #[(.ref a1), (.int (0 : Int32)), (.ref a3), (.int (0 : Int32)), (.int (4 : Int32))] 7 = mkF m 0 #[.val (.ref a1), .val (.int (0 : Int32)), .val (.ref a3), .val (.int (0 : Int32)), .val (.int (4 : Int32)), .unset, .unset] [] := by first | (simp [entryFrame, mkF, argsToLocals, Value.category]; done) | rfl
def Q8_4_3 (Z : State) (a1 : Addr) (a3 : Addr) (ar_a1 : Nat → Int32) (ar_a3 : Nat → Int32) (h0 : Heap) (n0 : Nat) (v : Option Value) (h : Heap) (L : List Loc) : Prop := v = some (.int (3 : Int32)) ∧ Fr n0 L ∧ Keep h0 h [a3] ∧ Afi Z h a3 .byte 4 (updI (updI (updI ar_a3 0 (nar .byte ((ar_a1 0).toInt8.toInt32))) 1 (nar .byte ((ar_a1 1).toInt8.toInt32))) 2 (nar .byte ((ar_a1 2).toInt8.toInt32))) ∧ Exa Z h a3 "[B"
set_option maxRecDepth 65536 in
set_option maxHeartbeats 40000000 in
theorem rm8_4_3 (l : Launch) (Z : State) (a0 : Array Value) (hw : ∀ d ∈ tables_1, d.before a0 Z = true) (a1 : Addr) (a3 : Addr) (ar_a1 : Nat → Int32) (ar_a3 : Nat → Int32) (h0 : Heap) (n0 : Nat) (Zs : n0 ≤ h0.size) (hc0 : ¬ (255 : Int32) < (ar_a1 0)) (hc1 : ¬ (255 : Int32) < (ar_a1 1)) (hc2 : ¬ (255 : Int32) < (ar_a1 2)) (hk : (255 : Int32) < (ar_a1 3)) (A_a1 : Afi Z h0 a1 .char 4 ar_a1) (E_a1 : Exa Z h0 a1 "[C") (A_a3 : Afi Z h0 a3 .byte 4 ar_a3) (E_a3 : Exa Z h0 a3 "[B") (g_a1 : n0 ≤ a1) (g_a3 : n0 ≤ a3) :
    Met1 l Z (⟨"java/lang/StringUTF16", "compress", "([CI[BII)I"⟩ : MethodName) jdk_52_method_21_code 7 (some .int) ({ frames := 0, cells := 0, slots := 0, locals := 0 } : Room) #[(.ref a1), (.int (0 : Int32)), (.ref a3), (.int (0 : Int32)), (.int (4 : Int32))] h0 (Q8_4_3 Z a1 a3 ar_a1 ar_a3 h0 n0) := by
  refine own_met_of (plainFor_of_name pn_33) (ef_8_4_3 a1 a3) ?_
  intro p e s m below meth c s₁ X hx hby hml hZ hown hnm hret hlk eT
  have hown : s.vm.findClass "java/lang/StringUTF16" = some m.cls := hown
  have N := Fr.nil n0
  have K := Keep.refl h0 [a3]
  have ne_a1_a3 : a1 ≠ a3 := ne_exa E_a1 E_a3 (by decide)
  refine own_iconst X hx hby (0 : Int32) d8_0 rfl 1 rfl ?_
  refine own_istore X hx hby d8_1 rfl (l' := #[.val (.ref a1), .val (.int (0 : Int32)), .val (.ref a3), .val (.int (0 : Int32)), .val (.int (4 : Int32)), .val (.int (0 : Int32)), .unset]) rfl 3 rfl ?_
  refine own_iload X hx hby (0 : Int32) d8_3 rfl 5 rfl ?_
  refine own_iload X hx hby (4 : Int32) d8_5 rfl 7 rfl ?_
  have c7 : (0 : Int32) < (4 : Int32) := by decide
  refine own_icmp_ge X hx hby d8_7 44 10 (by decide) rfl (fun q => absurd c7 q) (fun _ => ?_)
  refine own_aloadN X hx hby (.ref a1) d8_10 rfl rfl 11 rfl ?_
  refine own_iloadN X hx hby (0 : Int32) d8_11 rfl 12 rfl ?_
  refine own_caload X hx hby hZ (ar_a1 0) eT A_a1 (by decide) rfl d8_12 13 rfl ?_
  refine own_istore X hx hby d8_13 rfl (l' := #[.val (.ref a1), .val (.int (0 : Int32)), .val (.ref a3), .val (.int (0 : Int32)), .val (.int (4 : Int32)), .val (.int (0 : Int32)), .val (.int (ar_a1 0))]) rfl 15 rfl ?_
  refine own_iload X hx hby (ar_a1 0) d8_15 rfl 17 rfl ?_
  refine own_sipush X hx hby (255 : Int32) d8_17 rfl 20 rfl ?_
  have c20 : ¬ (255 : Int32) < (ar_a1 0) := hc0
  refine own_icmp_le X hx hby d8_20 26 23 (by decide) rfl (fun _ => ?_) (fun q => absurd q c20)
  refine own_aloadN X hx hby (.ref a3) d8_26 rfl rfl 27 rfl ?_
  refine own_iloadN X hx hby (0 : Int32) d8_27 rfl 28 rfl ?_
  refine own_iload X hx hby (ar_a1 0) d8_28 rfl 30 rfl ?_
  refine own_i2b X hx hby d8_30 31 rfl ?_
  refine own_bastore X hx hby hZ eT A_a3 (by decide) d8_31 32 rfl ?_
  intro T31 h31 X eT W A
  have A_a1 := A_a1.other W ne_a1_a3
  have E_a1 := E_a1.wr W
  have E_a3 := E_a3.wr W
  have A_a3 : Afi Z h31 a3 .byte 4 (updI ar_a3 0 (nar .byte ((ar_a1 0).toInt8.toInt32))) := A
  have N := Fr.snoc X N g_a3
  have K := K.wr W (Or.inl (List.mem_of_getElem? (i := 0) rfl))
  have Zs := Nat.le_trans Zs (Keep.of_wr W).1
  refine own_iinc X hx hby d8_32 (x := (0 : Int32)) rfl (by decide) (l' := #[.val (.ref a1), .val (.int (1 : Int32)), .val (.ref a3), .val (.int (0 : Int32)), .val (.int (4 : Int32)), .val (.int (0 : Int32)), .val (.int (ar_a1 0))]) rfl 35 rfl ?_
  refine own_iinc X hx hby d8_35 (x := (0 : Int32)) rfl (by decide) (l' := #[.val (.ref a1), .val (.int (1 : Int32)), .val (.ref a3), .val (.int (1 : Int32)), .val (.int (4 : Int32)), .val (.int (0 : Int32)), .val (.int (ar_a1 0))]) rfl 38 rfl ?_
  refine own_iinc X hx hby d8_38 (x := (0 : Int32)) rfl (by decide) (l' := #[.val (.ref a1), .val (.int (1 : Int32)), .val (.ref a3), .val (.int (1 : Int32)), .val (.int (4 : Int32)), .val (.int (1 : Int32)), .val (.int (ar_a1 0))]) rfl 41 rfl ?_
  refine own_goto X hx hby d8_41 3 (by decide) ?_
  refine own_iload X hx hby (1 : Int32) d8_3 rfl 5 rfl ?_
  refine own_iload X hx hby (4 : Int32) d8_5 rfl 7 rfl ?_
  have c7_2 : (1 : Int32) < (4 : Int32) := by decide
  refine own_icmp_ge X hx hby d8_7 44 10 (by decide) rfl (fun q => absurd c7_2 q) (fun _ => ?_)
  refine own_aloadN X hx hby (.ref a1) d8_10 rfl rfl 11 rfl ?_
  refine own_iloadN X hx hby (1 : Int32) d8_11 rfl 12 rfl ?_
  refine own_caload X hx hby hZ (ar_a1 1) eT A_a1 (by decide) rfl d8_12 13 rfl ?_
  refine own_istore X hx hby d8_13 rfl (l' := #[.val (.ref a1), .val (.int (1 : Int32)), .val (.ref a3), .val (.int (1 : Int32)), .val (.int (4 : Int32)), .val (.int (1 : Int32)), .val (.int (ar_a1 1))]) rfl 15 rfl ?_
  refine own_iload X hx hby (ar_a1 1) d8_15 rfl 17 rfl ?_
  refine own_sipush X hx hby (255 : Int32) d8_17 rfl 20 rfl ?_
  have c20_2 : ¬ (255 : Int32) < (ar_a1 1) := hc1
  refine own_icmp_le X hx hby d8_20 26 23 (by decide) rfl (fun _ => ?_) (fun q => absurd q c20_2)
  refine own_aloadN X hx hby (.ref a3) d8_26 rfl rfl 27 rfl ?_
  refine own_iloadN X hx hby (1 : Int32) d8_27 rfl 28 rfl ?_
  refine own_iload X hx hby (ar_a1 1) d8_28 rfl 30 rfl ?_
  refine own_i2b X hx hby d8_30 31 rfl ?_
  refine own_bastore X hx hby hZ eT A_a3 (by decide) d8_31 32 rfl ?_
  intro T31 h31 X eT W A
  have A_a1 := A_a1.other W ne_a1_a3
  have E_a1 := E_a1.wr W
  have E_a3 := E_a3.wr W
  have A_a3 : Afi Z h31 a3 .byte 4 (updI (updI ar_a3 0 (nar .byte ((ar_a1 0).toInt8.toInt32))) 1 (nar .byte ((ar_a1 1).toInt8.toInt32))) := A
  have N := Fr.snoc X N g_a3
  have K := K.wr W (Or.inl (List.mem_of_getElem? (i := 0) rfl))
  have Zs := Nat.le_trans Zs (Keep.of_wr W).1
  refine own_iinc X hx hby d8_32 (x := (1 : Int32)) rfl (by decide) (l' := #[.val (.ref a1), .val (.int (2 : Int32)), .val (.ref a3), .val (.int (1 : Int32)), .val (.int (4 : Int32)), .val (.int (1 : Int32)), .val (.int (ar_a1 1))]) rfl 35 rfl ?_
  refine own_iinc X hx hby d8_35 (x := (1 : Int32)) rfl (by decide) (l' := #[.val (.ref a1), .val (.int (2 : Int32)), .val (.ref a3), .val (.int (2 : Int32)), .val (.int (4 : Int32)), .val (.int (1 : Int32)), .val (.int (ar_a1 1))]) rfl 38 rfl ?_
  refine own_iinc X hx hby d8_38 (x := (1 : Int32)) rfl (by decide) (l' := #[.val (.ref a1), .val (.int (2 : Int32)), .val (.ref a3), .val (.int (2 : Int32)), .val (.int (4 : Int32)), .val (.int (2 : Int32)), .val (.int (ar_a1 1))]) rfl 41 rfl ?_
  refine own_goto X hx hby d8_41 3 (by decide) ?_
  refine own_iload X hx hby (2 : Int32) d8_3 rfl 5 rfl ?_
  refine own_iload X hx hby (4 : Int32) d8_5 rfl 7 rfl ?_
  have c7_3 : (2 : Int32) < (4 : Int32) := by decide
  refine own_icmp_ge X hx hby d8_7 44 10 (by decide) rfl (fun q => absurd c7_3 q) (fun _ => ?_)
  refine own_aloadN X hx hby (.ref a1) d8_10 rfl rfl 11 rfl ?_
  refine own_iloadN X hx hby (2 : Int32) d8_11 rfl 12 rfl ?_
  refine own_caload X hx hby hZ (ar_a1 2) eT A_a1 (by decide) rfl d8_12 13 rfl ?_
  refine own_istore X hx hby d8_13 rfl (l' := #[.val (.ref a1), .val (.int (2 : Int32)), .val (.ref a3), .val (.int (2 : Int32)), .val (.int (4 : Int32)), .val (.int (2 : Int32)), .val (.int (ar_a1 2))]) rfl 15 rfl ?_
  refine own_iload X hx hby (ar_a1 2) d8_15 rfl 17 rfl ?_
  refine own_sipush X hx hby (255 : Int32) d8_17 rfl 20 rfl ?_
  have c20_3 : ¬ (255 : Int32) < (ar_a1 2) := hc2
  refine own_icmp_le X hx hby d8_20 26 23 (by decide) rfl (fun _ => ?_) (fun q => absurd q c20_3)
  refine own_aloadN X hx hby (.ref a3) d8_26 rfl rfl 27 rfl ?_
  refine own_iloadN X hx hby (2 : Int32) d8_27 rfl 28 rfl ?_
  refine own_iload X hx hby (ar_a1 2) d8_28 rfl 30 rfl ?_
  refine own_i2b X hx hby d8_30 31 rfl ?_
  refine own_bastore X hx hby hZ eT A_a3 (by decide) d8_31 32 rfl ?_
  intro T31 h31 X eT W A
  have A_a1 := A_a1.other W ne_a1_a3
  have E_a1 := E_a1.wr W
  have E_a3 := E_a3.wr W
  have A_a3 : Afi Z h31 a3 .byte 4 (updI (updI (updI ar_a3 0 (nar .byte ((ar_a1 0).toInt8.toInt32))) 1 (nar .byte ((ar_a1 1).toInt8.toInt32))) 2 (nar .byte ((ar_a1 2).toInt8.toInt32))) := A
  have N := Fr.snoc X N g_a3
  have K := K.wr W (Or.inl (List.mem_of_getElem? (i := 0) rfl))
  have Zs := Nat.le_trans Zs (Keep.of_wr W).1
  refine own_iinc X hx hby d8_32 (x := (2 : Int32)) rfl (by decide) (l' := #[.val (.ref a1), .val (.int (3 : Int32)), .val (.ref a3), .val (.int (2 : Int32)), .val (.int (4 : Int32)), .val (.int (2 : Int32)), .val (.int (ar_a1 2))]) rfl 35 rfl ?_
  refine own_iinc X hx hby d8_35 (x := (2 : Int32)) rfl (by decide) (l' := #[.val (.ref a1), .val (.int (3 : Int32)), .val (.ref a3), .val (.int (3 : Int32)), .val (.int (4 : Int32)), .val (.int (2 : Int32)), .val (.int (ar_a1 2))]) rfl 38 rfl ?_
  refine own_iinc X hx hby d8_38 (x := (2 : Int32)) rfl (by decide) (l' := #[.val (.ref a1), .val (.int (3 : Int32)), .val (.ref a3), .val (.int (3 : Int32)), .val (.int (4 : Int32)), .val (.int (3 : Int32)), .val (.int (ar_a1 2))]) rfl 41 rfl ?_
  refine own_goto X hx hby d8_41 3 (by decide) ?_
  refine own_iload X hx hby (3 : Int32) d8_3 rfl 5 rfl ?_
  refine own_iload X hx hby (4 : Int32) d8_5 rfl 7 rfl ?_
  have c7_4 : (3 : Int32) < (4 : Int32) := by decide
  refine own_icmp_ge X hx hby d8_7 44 10 (by decide) rfl (fun q => absurd c7_4 q) (fun _ => ?_)
  refine own_aloadN X hx hby (.ref a1) d8_10 rfl rfl 11 rfl ?_
  refine own_iloadN X hx hby (3 : Int32) d8_11 rfl 12 rfl ?_
  refine own_caload X hx hby hZ (ar_a1 3) eT A_a1 (by decide) rfl d8_12 13 rfl ?_
  refine own_istore X hx hby d8_13 rfl (l' := #[.val (.ref a1), .val (.int (3 : Int32)), .val (.ref a3), .val (.int (3 : Int32)), .val (.int (4 : Int32)), .val (.int (3 : Int32)), .val (.int (ar_a1 3))]) rfl 15 rfl ?_
  refine own_iload X hx hby (ar_a1 3) d8_15 rfl 17 rfl ?_
  refine own_sipush X hx hby (255 : Int32) d8_17 rfl 20 rfl ?_
  have c20_4 : (255 : Int32) < (ar_a1 3) := hk
  refine own_icmp_le X hx hby d8_20 26 23 (by decide) rfl (fun q => absurd c20_4 q) (fun _ => ?_)
  refine own_iload X hx hby (3 : Int32) d8_23 rfl 25 rfl ?_
  refine own_retI X hx hby hret hlk d8_25 (by decide) (by decide) ?_
  rw [eT]
  exact ⟨rfl, N, K, A_a3, E_a3⟩
theorem ef_8_4_4 (a1 : Addr) (a3 : Addr) (m : MethodId) : entryFrame m #[(.ref a1), (.int (0 : Int32)), (.ref a3), (.int (0 : Int32)), (.int (4 : Int32))] 7 = mkF m 0 #[.val (.ref a1), .val (.int (0 : Int32)), .val (.ref a3), .val (.int (0 : Int32)), .val (.int (4 : Int32)), .unset, .unset] [] := by first | (simp [entryFrame, mkF, argsToLocals, Value.category]; done) | rfl
def Q8_4_4 (Z : State) (a1 : Addr) (a3 : Addr) (ar_a1 : Nat → Int32) (ar_a3 : Nat → Int32) (h0 : Heap) (n0 : Nat) (v : Option Value) (h : Heap) (L : List Loc) : Prop := v = some (.int (4 : Int32)) ∧ Fr n0 L ∧ Keep h0 h [a3] ∧ Afi Z h a3 .byte 4 (updI (updI (updI (updI ar_a3 0 (nar .byte ((ar_a1 0).toInt8.toInt32))) 1 (nar .byte ((ar_a1 1).toInt8.toInt32))) 2 (nar .byte ((ar_a1 2).toInt8.toInt32))) 3 (nar .byte ((ar_a1 3).toInt8.toInt32))) ∧ Exa Z h a3 "[B"
set_option maxRecDepth 65536 in
set_option maxHeartbeats 40000000 in
theorem rm8_4_4 (l : Launch) (Z : State) (a0 : Array Value) (hw : ∀ d ∈ tables_1, d.before a0 Z = true) (a1 : Addr) (a3 : Addr) (ar_a1 : Nat → Int32) (ar_a3 : Nat → Int32) (h0 : Heap) (n0 : Nat) (Zs : n0 ≤ h0.size) (hc0 : ¬ (255 : Int32) < (ar_a1 0)) (hc1 : ¬ (255 : Int32) < (ar_a1 1)) (hc2 : ¬ (255 : Int32) < (ar_a1 2)) (hc3 : ¬ (255 : Int32) < (ar_a1 3)) (A_a1 : Afi Z h0 a1 .char 4 ar_a1) (E_a1 : Exa Z h0 a1 "[C") (A_a3 : Afi Z h0 a3 .byte 4 ar_a3) (E_a3 : Exa Z h0 a3 "[B") (g_a1 : n0 ≤ a1) (g_a3 : n0 ≤ a3) :
    Met1 l Z (⟨"java/lang/StringUTF16", "compress", "([CI[BII)I"⟩ : MethodName) jdk_52_method_21_code 7 (some .int) ({ frames := 0, cells := 0, slots := 0, locals := 0 } : Room) #[(.ref a1), (.int (0 : Int32)), (.ref a3), (.int (0 : Int32)), (.int (4 : Int32))] h0 (Q8_4_4 Z a1 a3 ar_a1 ar_a3 h0 n0) := by
  refine own_met_of (plainFor_of_name pn_33) (ef_8_4_4 a1 a3) ?_
  intro p e s m below meth c s₁ X hx hby hml hZ hown hnm hret hlk eT
  have hown : s.vm.findClass "java/lang/StringUTF16" = some m.cls := hown
  have N := Fr.nil n0
  have K := Keep.refl h0 [a3]
  have ne_a1_a3 : a1 ≠ a3 := ne_exa E_a1 E_a3 (by decide)
  refine own_iconst X hx hby (0 : Int32) d8_0 rfl 1 rfl ?_
  refine own_istore X hx hby d8_1 rfl (l' := #[.val (.ref a1), .val (.int (0 : Int32)), .val (.ref a3), .val (.int (0 : Int32)), .val (.int (4 : Int32)), .val (.int (0 : Int32)), .unset]) rfl 3 rfl ?_
  refine own_iload X hx hby (0 : Int32) d8_3 rfl 5 rfl ?_
  refine own_iload X hx hby (4 : Int32) d8_5 rfl 7 rfl ?_
  have c7 : (0 : Int32) < (4 : Int32) := by decide
  refine own_icmp_ge X hx hby d8_7 44 10 (by decide) rfl (fun q => absurd c7 q) (fun _ => ?_)
  refine own_aloadN X hx hby (.ref a1) d8_10 rfl rfl 11 rfl ?_
  refine own_iloadN X hx hby (0 : Int32) d8_11 rfl 12 rfl ?_
  refine own_caload X hx hby hZ (ar_a1 0) eT A_a1 (by decide) rfl d8_12 13 rfl ?_
  refine own_istore X hx hby d8_13 rfl (l' := #[.val (.ref a1), .val (.int (0 : Int32)), .val (.ref a3), .val (.int (0 : Int32)), .val (.int (4 : Int32)), .val (.int (0 : Int32)), .val (.int (ar_a1 0))]) rfl 15 rfl ?_
  refine own_iload X hx hby (ar_a1 0) d8_15 rfl 17 rfl ?_
  refine own_sipush X hx hby (255 : Int32) d8_17 rfl 20 rfl ?_
  have c20 : ¬ (255 : Int32) < (ar_a1 0) := hc0
  refine own_icmp_le X hx hby d8_20 26 23 (by decide) rfl (fun _ => ?_) (fun q => absurd q c20)
  refine own_aloadN X hx hby (.ref a3) d8_26 rfl rfl 27 rfl ?_
  refine own_iloadN X hx hby (0 : Int32) d8_27 rfl 28 rfl ?_
  refine own_iload X hx hby (ar_a1 0) d8_28 rfl 30 rfl ?_
  refine own_i2b X hx hby d8_30 31 rfl ?_
  refine own_bastore X hx hby hZ eT A_a3 (by decide) d8_31 32 rfl ?_
  intro T31 h31 X eT W A
  have A_a1 := A_a1.other W ne_a1_a3
  have E_a1 := E_a1.wr W
  have E_a3 := E_a3.wr W
  have A_a3 : Afi Z h31 a3 .byte 4 (updI ar_a3 0 (nar .byte ((ar_a1 0).toInt8.toInt32))) := A
  have N := Fr.snoc X N g_a3
  have K := K.wr W (Or.inl (List.mem_of_getElem? (i := 0) rfl))
  have Zs := Nat.le_trans Zs (Keep.of_wr W).1
  refine own_iinc X hx hby d8_32 (x := (0 : Int32)) rfl (by decide) (l' := #[.val (.ref a1), .val (.int (1 : Int32)), .val (.ref a3), .val (.int (0 : Int32)), .val (.int (4 : Int32)), .val (.int (0 : Int32)), .val (.int (ar_a1 0))]) rfl 35 rfl ?_
  refine own_iinc X hx hby d8_35 (x := (0 : Int32)) rfl (by decide) (l' := #[.val (.ref a1), .val (.int (1 : Int32)), .val (.ref a3), .val (.int (1 : Int32)), .val (.int (4 : Int32)), .val (.int (0 : Int32)), .val (.int (ar_a1 0))]) rfl 38 rfl ?_
  refine own_iinc X hx hby d8_38 (x := (0 : Int32)) rfl (by decide) (l' := #[.val (.ref a1), .val (.int (1 : Int32)), .val (.ref a3), .val (.int (1 : Int32)), .val (.int (4 : Int32)), .val (.int (1 : Int32)), .val (.int (ar_a1 0))]) rfl 41 rfl ?_
  refine own_goto X hx hby d8_41 3 (by decide) ?_
  refine own_iload X hx hby (1 : Int32) d8_3 rfl 5 rfl ?_
  refine own_iload X hx hby (4 : Int32) d8_5 rfl 7 rfl ?_
  have c7_2 : (1 : Int32) < (4 : Int32) := by decide
  refine own_icmp_ge X hx hby d8_7 44 10 (by decide) rfl (fun q => absurd c7_2 q) (fun _ => ?_)
  refine own_aloadN X hx hby (.ref a1) d8_10 rfl rfl 11 rfl ?_
  refine own_iloadN X hx hby (1 : Int32) d8_11 rfl 12 rfl ?_
  refine own_caload X hx hby hZ (ar_a1 1) eT A_a1 (by decide) rfl d8_12 13 rfl ?_
  refine own_istore X hx hby d8_13 rfl (l' := #[.val (.ref a1), .val (.int (1 : Int32)), .val (.ref a3), .val (.int (1 : Int32)), .val (.int (4 : Int32)), .val (.int (1 : Int32)), .val (.int (ar_a1 1))]) rfl 15 rfl ?_
  refine own_iload X hx hby (ar_a1 1) d8_15 rfl 17 rfl ?_
  refine own_sipush X hx hby (255 : Int32) d8_17 rfl 20 rfl ?_
  have c20_2 : ¬ (255 : Int32) < (ar_a1 1) := hc1
  refine own_icmp_le X hx hby d8_20 26 23 (by decide) rfl (fun _ => ?_) (fun q => absurd q c20_2)
  refine own_aloadN X hx hby (.ref a3) d8_26 rfl rfl 27 rfl ?_
  refine own_iloadN X hx hby (1 : Int32) d8_27 rfl 28 rfl ?_
  refine own_iload X hx hby (ar_a1 1) d8_28 rfl 30 rfl ?_
  refine own_i2b X hx hby d8_30 31 rfl ?_
  refine own_bastore X hx hby hZ eT A_a3 (by decide) d8_31 32 rfl ?_
  intro T31 h31 X eT W A
  have A_a1 := A_a1.other W ne_a1_a3
  have E_a1 := E_a1.wr W
  have E_a3 := E_a3.wr W
  have A_a3 : Afi Z h31 a3 .byte 4 (updI (updI ar_a3 0 (nar .byte ((ar_a1 0).toInt8.toInt32))) 1 (nar .byte ((ar_a1 1).toInt8.toInt32))) := A
  have N := Fr.snoc X N g_a3
  have K := K.wr W (Or.inl (List.mem_of_getElem? (i := 0) rfl))
  have Zs := Nat.le_trans Zs (Keep.of_wr W).1
  refine own_iinc X hx hby d8_32 (x := (1 : Int32)) rfl (by decide) (l' := #[.val (.ref a1), .val (.int (2 : Int32)), .val (.ref a3), .val (.int (1 : Int32)), .val (.int (4 : Int32)), .val (.int (1 : Int32)), .val (.int (ar_a1 1))]) rfl 35 rfl ?_
  refine own_iinc X hx hby d8_35 (x := (1 : Int32)) rfl (by decide) (l' := #[.val (.ref a1), .val (.int (2 : Int32)), .val (.ref a3), .val (.int (2 : Int32)), .val (.int (4 : Int32)), .val (.int (1 : Int32)), .val (.int (ar_a1 1))]) rfl 38 rfl ?_
  refine own_iinc X hx hby d8_38 (x := (1 : Int32)) rfl (by decide) (l' := #[.val (.ref a1), .val (.int (2 : Int32)), .val (.ref a3), .val (.int (2 : Int32)), .val (.int (4 : Int32)), .val (.int (2 : Int32)), .val (.int (ar_a1 1))]) rfl 41 rfl ?_
  refine own_goto X hx hby d8_41 3 (by decide) ?_
  refine own_iload X hx hby (2 : Int32) d8_3 rfl 5 rfl ?_
  refine own_iload X hx hby (4 : Int32) d8_5 rfl 7 rfl ?_
  have c7_3 : (2 : Int32) < (4 : Int32) := by decide
  refine own_icmp_ge X hx hby d8_7 44 10 (by decide) rfl (fun q => absurd c7_3 q) (fun _ => ?_)
  refine own_aloadN X hx hby (.ref a1) d8_10 rfl rfl 11 rfl ?_
  refine own_iloadN X hx hby (2 : Int32) d8_11 rfl 12 rfl ?_
  refine own_caload X hx hby hZ (ar_a1 2) eT A_a1 (by decide) rfl d8_12 13 rfl ?_
  refine own_istore X hx hby d8_13 rfl (l' := #[.val (.ref a1), .val (.int (2 : Int32)), .val (.ref a3), .val (.int (2 : Int32)), .val (.int (4 : Int32)), .val (.int (2 : Int32)), .val (.int (ar_a1 2))]) rfl 15 rfl ?_
  refine own_iload X hx hby (ar_a1 2) d8_15 rfl 17 rfl ?_
  refine own_sipush X hx hby (255 : Int32) d8_17 rfl 20 rfl ?_
  have c20_3 : ¬ (255 : Int32) < (ar_a1 2) := hc2
  refine own_icmp_le X hx hby d8_20 26 23 (by decide) rfl (fun _ => ?_) (fun q => absurd q c20_3)
  refine own_aloadN X hx hby (.ref a3) d8_26 rfl rfl 27 rfl ?_
  refine own_iloadN X hx hby (2 : Int32) d8_27 rfl 28 rfl ?_
  refine own_iload X hx hby (ar_a1 2) d8_28 rfl 30 rfl ?_
  refine own_i2b X hx hby d8_30 31 rfl ?_
  refine own_bastore X hx hby hZ eT A_a3 (by decide) d8_31 32 rfl ?_
  intro T31 h31 X eT W A
  have A_a1 := A_a1.other W ne_a1_a3
  have E_a1 := E_a1.wr W
  have E_a3 := E_a3.wr W
  have A_a3 : Afi Z h31 a3 .byte 4 (updI (updI (updI ar_a3 0 (nar .byte ((ar_a1 0).toInt8.toInt32))) 1 (nar .byte ((ar_a1 1).toInt8.toInt32))) 2 (nar .byte ((ar_a1 2).toInt8.toInt32))) := A
  have N := Fr.snoc X N g_a3
  have K := K.wr W (Or.inl (List.mem_of_getElem? (i := 0) rfl))
  have Zs := Nat.le_trans Zs (Keep.of_wr W).1
  refine own_iinc X hx hby d8_32 (x := (2 : Int32)) rfl (by decide) (l' := #[.val (.ref a1), .val (.int (3 : Int32)), .val (.ref a3), .val (.int (2 : Int32)), .val (.int (4 : Int32)), .val (.int (2 : Int32)), .val (.int (ar_a1 2))]) rfl 35 rfl ?_
  refine own_iinc X hx hby d8_35 (x := (2 : Int32)) rfl (by decide) (l' := #[.val (.ref a1), .val (.int (3 : Int32)), .val (.ref a3), .val (.int (3 : Int32)), .val (.int (4 : Int32)), .val (.int (2 : Int32)), .val (.int (ar_a1 2))]) rfl 38 rfl ?_
  refine own_iinc X hx hby d8_38 (x := (2 : Int32)) rfl (by decide) (l' := #[.val (.ref a1), .val (.int (3 : Int32)), .val (.ref a3), .val (.int (3 : Int32)), .val (.int (4 : Int32)), .val (.int (3 : Int32)), .val (.int (ar_a1 2))]) rfl 41 rfl ?_
  refine own_goto X hx hby d8_41 3 (by decide) ?_
  refine own_iload X hx hby (3 : Int32) d8_3 rfl 5 rfl ?_
  refine own_iload X hx hby (4 : Int32) d8_5 rfl 7 rfl ?_
  have c7_4 : (3 : Int32) < (4 : Int32) := by decide
  refine own_icmp_ge X hx hby d8_7 44 10 (by decide) rfl (fun q => absurd c7_4 q) (fun _ => ?_)
  refine own_aloadN X hx hby (.ref a1) d8_10 rfl rfl 11 rfl ?_
  refine own_iloadN X hx hby (3 : Int32) d8_11 rfl 12 rfl ?_
  refine own_caload X hx hby hZ (ar_a1 3) eT A_a1 (by decide) rfl d8_12 13 rfl ?_
  refine own_istore X hx hby d8_13 rfl (l' := #[.val (.ref a1), .val (.int (3 : Int32)), .val (.ref a3), .val (.int (3 : Int32)), .val (.int (4 : Int32)), .val (.int (3 : Int32)), .val (.int (ar_a1 3))]) rfl 15 rfl ?_
  refine own_iload X hx hby (ar_a1 3) d8_15 rfl 17 rfl ?_
  refine own_sipush X hx hby (255 : Int32) d8_17 rfl 20 rfl ?_
  have c20_4 : ¬ (255 : Int32) < (ar_a1 3) := hc3
  refine own_icmp_le X hx hby d8_20 26 23 (by decide) rfl (fun _ => ?_) (fun q => absurd q c20_4)
  refine own_aloadN X hx hby (.ref a3) d8_26 rfl rfl 27 rfl ?_
  refine own_iloadN X hx hby (3 : Int32) d8_27 rfl 28 rfl ?_
  refine own_iload X hx hby (ar_a1 3) d8_28 rfl 30 rfl ?_
  refine own_i2b X hx hby d8_30 31 rfl ?_
  refine own_bastore X hx hby hZ eT A_a3 (by decide) d8_31 32 rfl ?_
  intro T31 h31 X eT W A
  have A_a1 := A_a1.other W ne_a1_a3
  have E_a1 := E_a1.wr W
  have E_a3 := E_a3.wr W
  have A_a3 : Afi Z h31 a3 .byte 4 (updI (updI (updI (updI ar_a3 0 (nar .byte ((ar_a1 0).toInt8.toInt32))) 1 (nar .byte ((ar_a1 1).toInt8.toInt32))) 2 (nar .byte ((ar_a1 2).toInt8.toInt32))) 3 (nar .byte ((ar_a1 3).toInt8.toInt32))) := A
  have N := Fr.snoc X N g_a3
  have K := K.wr W (Or.inl (List.mem_of_getElem? (i := 0) rfl))
  have Zs := Nat.le_trans Zs (Keep.of_wr W).1
  refine own_iinc X hx hby d8_32 (x := (3 : Int32)) rfl (by decide) (l' := #[.val (.ref a1), .val (.int (4 : Int32)), .val (.ref a3), .val (.int (3 : Int32)), .val (.int (4 : Int32)), .val (.int (3 : Int32)), .val (.int (ar_a1 3))]) rfl 35 rfl ?_
  refine own_iinc X hx hby d8_35 (x := (3 : Int32)) rfl (by decide) (l' := #[.val (.ref a1), .val (.int (4 : Int32)), .val (.ref a3), .val (.int (4 : Int32)), .val (.int (4 : Int32)), .val (.int (3 : Int32)), .val (.int (ar_a1 3))]) rfl 38 rfl ?_
  refine own_iinc X hx hby d8_38 (x := (3 : Int32)) rfl (by decide) (l' := #[.val (.ref a1), .val (.int (4 : Int32)), .val (.ref a3), .val (.int (4 : Int32)), .val (.int (4 : Int32)), .val (.int (4 : Int32)), .val (.int (ar_a1 3))]) rfl 41 rfl ?_
  refine own_goto X hx hby d8_41 3 (by decide) ?_
  refine own_iload X hx hby (4 : Int32) d8_3 rfl 5 rfl ?_
  refine own_iload X hx hby (4 : Int32) d8_5 rfl 7 rfl ?_
  have c7_5 : ¬ (4 : Int32) < (4 : Int32) := by decide
  refine own_icmp_ge X hx hby d8_7 44 10 (by decide) rfl (fun _ => ?_) (fun q => absurd q c7_5)
  refine own_iload X hx hby (4 : Int32) d8_44 rfl 46 rfl ?_
  refine own_retI X hx hby hret hlk d8_46 (by decide) (by decide) ?_
  rw [eT]
  exact ⟨rfl, N, K, A_a3, E_a3⟩
theorem ef_7_1_0 (a1 : Addr) (m : MethodId) : entryFrame m #[(.ref a1), (.int (0 : Int32)), (.int (1 : Int32))] 6 = mkF m 0 #[.val (.ref a1), .val (.int (0 : Int32)), .val (.int (1 : Int32)), .unset, .unset, .unset] [] := by first | (simp [entryFrame, mkF, argsToLocals, Value.category]; done) | rfl
def Q7_1_0 (Z : State) (a1 : Addr) (ar_a1 : Nat → Int32) (h0 : Heap) (n0 : Nat) (v : Option Value) (h : Heap) (L : List Loc) : Prop := ∃ (b1 : Addr) (b23b1b4 : Addr), v = some (.ref b23b1b4) ∧ Fr n0 L ∧ Keep h0 h [] ∧ h0.size ≤ b1 ∧ h0.size ≤ b23b1b4 ∧ Afi Z h b1 .byte 1 (fun _ => (0 : Int32)) ∧ Exa Z h b1 "[B" ∧ Afi Z h b23b1b4 .byte 2 (updI (updI (fun _ => (0 : Int32)) 0 (nar .byte (((ar_a1 0) >>> ((0 : Int32) &&& 31)).toInt8.toInt32))) 1 (nar .byte (((ar_a1 0) >>> ((8 : Int32) &&& 31)).toInt8.toInt32))) ∧ Exa Z h b23b1b4 "[B"
set_option maxRecDepth 65536 in
set_option maxHeartbeats 40000000 in
theorem rm7_1_0 (l : Launch) (Z : State) (a0 : Array Value) (hw : ∀ d ∈ tables_1, d.before a0 Z = true) (a1 : Addr) (ar_a1 : Nat → Int32) (h0 : Heap) (n0 : Nat) (Zs : n0 ≤ h0.size) (hk : (255 : Int32) < (ar_a1 0)) (hrg : ∀ i, 0 ≤ (ar_a1 i).toInt ∧ (ar_a1 i).toInt < 65536) (A_a1 : Afi Z h0 a1 .char 1 ar_a1) (E_a1 : Exa Z h0 a1 "[C") (S__assertionsDisabled : Sta Z h0 "java/lang/StringUTF16" "$assertionsDisabled" "Z" (.int (1 : Int32))) (S_HI_BYTE_SHIFT : Sta Z h0 "java/lang/StringUTF16" "HI_BYTE_SHIFT" "I" (.int (0 : Int32))) (S_LO_BYTE_SHIFT : Sta Z h0 "java/lang/StringUTF16" "LO_BYTE_SHIFT" "I" (.int (8 : Int32))) (g_a1 : n0 ≤ a1) :
    Met1 l Z (⟨"java/lang/StringUTF16", "compress", "([CII)[B"⟩ : MethodName) jdk_52_method_16_code 6 (some (.array .byte)) ({ frames := 3, cells := 2, slots := 3, locals := 40 } : Room) #[(.ref a1), (.int (0 : Int32)), (.int (1 : Int32))] h0 (Q7_1_0 Z a1 ar_a1 h0 n0) := by
  refine own_met_of (plainFor_of_name pn_33) (ef_7_1_0 a1) ?_
  intro p e s m below meth c s₁ X hx hby hml hZ hown hnm hret hlk eT
  have hown : s.vm.findClass "java/lang/StringUTF16" = some m.cls := hown
  have N := Fr.nil n0
  have K := Keep.refl h0 []
  refine own_iloadN X hx hby (1 : Int32) d7_0 rfl 1 rfl ?_
  refine own_newarray X hx hby hZ (hw _ (List.mem_of_getElem? (i := 21) rfl)) eT d7_1 (z := (1 : Int32)) (by decide) (n := 1) rfl (cap := 1) (by decide) (by decide) (by decide) (by decide) (ad := "[B") rfl 3 rfl ?_
  intro T1 h1 b1 gb1 X eT Ex A A2
  have g_b1 : n0 ≤ b1 := by rw [gb1]; exact Zs
  have sz_b1 : h0.size ≤ b1 := by rw [gb1]; exact K.1
  have ne_a1_b1 : a1 ≠ b1 := Nat.ne_of_lt (by rw [gb1]; exact A_a1.lt)
  have A_a1 := A_a1.ext Ex
  have E_a1 := E_a1.ext Ex
  have A_b1 : Afi Z h1 b1 .byte 1 (fun _ => (0 : Int32)) := A
  have E_b1 := A2
  have K := K.ext Ex
  have Zs := Nat.le_trans Zs Ex.1
  refine own_astoreN X hx hby d7_3 rfl (l' := #[.val (.ref a1), .val (.int (0 : Int32)), .val (.int (1 : Int32)), .val (.ref b1), .unset, .unset]) rfl 4 rfl ?_
  refine own_aloadN X hx hby (.ref a1) d7_4 rfl rfl 5 rfl ?_
  refine own_iloadN X hx hby (0 : Int32) d7_5 rfl 6 rfl ?_
  refine own_aloadN X hx hby (.ref b1) d7_6 rfl rfl 7 rfl ?_
  refine own_iconst X hx hby (0 : Int32) d7_7 rfl 8 rfl ?_
  refine own_iloadN X hx hby (1 : Int32) d7_8 rfl 9 rfl ?_
  refine own_callS X hx hby hZ (st := []) [(.ref a1), (.int (0 : Int32)), (.ref b1), (.int (0 : Int32)), (.int (1 : Int32))] rfl hown (hw _ (List.mem_of_getElem? (i := 42) rfl)) (hw _ (List.mem_of_getElem? (i := 43) rfl)) (hw _ (List.mem_of_getElem? (i := 40) rfl)) (hw _ (List.mem_of_getElem? (i := 44) rfl)) (by decide) d7_9 (rm8_1_0 l Z a0 hw a1 b1 ar_a1 (fun _ => (0 : Int32)) h1 n0 Zs hk A_a1 E_a1 A_b1 E_b1 g_a1 g_b1) eT pd_22 rfl (by rw [hml]; rfl) (by decide) 0 rfl (by decide) (by decide) (by decide) 12 rfl ?_
  intro T9 L9 v9 X hQ
  obtain ⟨rfl, N9, eT⟩ := hQ
  have N := Fr.app N N9
  show Go p e below _ T9 (mkF m 12 #[.val (.ref a1), .val (.int (0 : Int32)), .val (.int (1 : Int32)), .val (.ref b1), .unset, .unset] [(.int (0 : Int32))])
  refine own_istore X hx hby d7_12 rfl (l' := #[.val (.ref a1), .val (.int (0 : Int32)), .val (.int (1 : Int32)), .val (.ref b1), .val (.int (0 : Int32)), .unset]) rfl 14 rfl ?_
  refine own_iload X hx hby (0 : Int32) d7_14 rfl 16 rfl ?_
  refine own_iloadN X hx hby (1 : Int32) d7_16 rfl 17 rfl ?_
  have c17 : ¬ (0 : Int32) = (1 : Int32) := by decide
  refine own_icmp_eq X hx hby d7_17 57 20 (by decide) rfl (fun q => absurd q c17) (fun _ => ?_)
  refine own_aloadN X hx hby (.ref a1) d7_20 rfl rfl 21 rfl ?_
  refine own_iloadN X hx hby (0 : Int32) d7_21 rfl 22 rfl ?_
  refine own_iloadN X hx hby (1 : Int32) d7_22 rfl 23 rfl ?_
  refine own_callS X hx hby hZ (st := []) [(.ref a1), (.int (0 : Int32)), (.int (1 : Int32))] rfl hown (hw _ (List.mem_of_getElem? (i := 115) rfl)) (hw _ (List.mem_of_getElem? (i := 116) rfl)) (hw _ (List.mem_of_getElem? (i := 40) rfl)) (hw _ (List.mem_of_getElem? (i := 117) rfl)) (by decide) d7_23 (rm26_1 l Z a0 hw a1 ar_a1 h1 n0 Zs A_a1 E_a1 (S__assertionsDisabled.ext (own_ext0 K)) (S_HI_BYTE_SHIFT.ext (own_ext0 K)) (S_LO_BYTE_SHIFT.ext (own_ext0 K))) eT pd_20 rfl (by rw [hml]; rfl) (by decide) 0 rfl (by decide) (by decide) (by decide) 26 rfl ?_
  intro T23 L9 v9 X hQ
  obtain ⟨h23, eT⟩ : ∃ z, T23.heap = z := ⟨_, rfl⟩
  rw [eT] at hQ
  have lt_a1 := A_a1.lt
  have lt_b1 := A_b1.lt
  obtain ⟨b23b1b4, rfl, N9, Kc, hs_b23b1b4, A_b23b1b4, E_b23b1b4⟩ := hQ
  have g_b23b1b4 : n0 ≤ b23b1b4 := Nat.le_trans Zs hs_b23b1b4
  have sz_b23b1b4 : h0.size ≤ b23b1b4 := Nat.le_trans K.1 hs_b23b1b4
  have ne_a1_b23b1b4 : a1 ≠ b23b1b4 := Nat.ne_of_lt (Nat.lt_of_lt_of_le lt_a1 hs_b23b1b4)
  have ne_b1_b23b1b4 : b1 ≠ b23b1b4 := Nat.ne_of_lt (Nat.lt_of_lt_of_le lt_b1 hs_b23b1b4)
  have A_a1 := A_a1.keep Kc nin0
  have E_a1 := E_a1.keep Kc
  have A_b1 := A_b1.keep Kc nin0
  have E_b1 := E_b1.keep Kc
  have K := K.trans Kc all0
  have Zs := Nat.le_trans Zs Kc.1
  have N := Fr.app N N9
  show Go p e below _ T23 (mkF m 26 #[.val (.ref a1), .val (.int (0 : Int32)), .val (.int (1 : Int32)), .val (.ref b1), .val (.int (0 : Int32)), .unset] [(.ref b23b1b4)])
  refine own_astore X hx hby d7_26 rfl (l' := #[.val (.ref a1), .val (.int (0 : Int32)), .val (.int (1 : Int32)), .val (.ref b1), .val (.int (0 : Int32)), .val (.ref b23b1b4)]) rfl 28 rfl ?_
  refine own_aload X hx hby (.ref b23b1b4) d7_28 rfl rfl 30 rfl ?_
  refine own_iload X hx hby (0 : Int32) d7_30 rfl 32 rfl ?_
  refine own_callS X hx hby hZ (st := []) [(.ref b23b1b4), (.int (0 : Int32))] rfl hown (hw _ (List.mem_of_getElem? (i := 131) rfl)) (hw _ (List.mem_of_getElem? (i := 132) rfl)) (hw _ (List.mem_of_getElem? (i := 40) rfl)) (hw _ (List.mem_of_getElem? (i := 133) rfl)) (by decide) d7_32 (rm30_0 l Z a0 hw b23b1b4 (updI (updI (fun _ => (0 : Int32)) 0 (nar .byte (((ar_a1 0) >>> ((0 : Int32) &&& 31)).toInt8.toInt32))) 1 (nar .byte (((ar_a1 0) >>> ((8 : Int32) &&& 31)).toInt8.toInt32))) 2 h23 n0 Zs (by decide) (by decide) A_b23b1b4 (S__assertionsDisabled.ext (own_ext0 K)) (S_HI_BYTE_SHIFT.ext (own_ext0 K)) (S_LO_BYTE_SHIFT.ext (own_ext0 K))) eT pd_16 rfl (by rw [hml]; rfl) (by decide) 0 rfl (by decide) (by decide) (by decide) 35 rfl ?_
  intro T32 L9 v9 X hQ
  obtain ⟨rfl, N9, eT⟩ := hQ
  have N := Fr.app N N9
  show Go p e below _ T32 (mkF m 35 #[.val (.ref a1), .val (.int (0 : Int32)), .val (.int (1 : Int32)), .val (.ref b1), .val (.int (0 : Int32)), .val (.ref b23b1b4)] [(.int (nar .char ((((((updI (updI (fun _ => (0 : Int32)) 0 (nar .byte (((ar_a1 0) >>> ((0 : Int32) &&& 31)).toInt8.toInt32))) 1 (nar .byte (((ar_a1 0) >>> ((8 : Int32) &&& 31)).toInt8.toInt32))) 0) &&& (255 : Int32)) <<< ((0 : Int32) &&& 31)) ||| ((((updI (updI (fun _ => (0 : Int32)) 0 (nar .byte (((ar_a1 0) >>> ((0 : Int32) &&& 31)).toInt8.toInt32))) 1 (nar .byte (((ar_a1 0) >>> ((8 : Int32) &&& 31)).toInt8.toInt32))) 1) &&& (255 : Int32)) <<< ((8 : Int32) &&& 31))).toUInt32.toUInt16.toUInt32.toInt32)))])
  refine own_sipush X hx hby (255 : Int32) d7_35 rfl 38 rfl ?_
  have c38 : (255 : Int32) < (nar .char ((((((updI (updI (fun _ => (0 : Int32)) 0 (nar .byte (((ar_a1 0) >>> ((0 : Int32) &&& 31)).toInt8.toInt32))) 1 (nar .byte (((ar_a1 0) >>> ((8 : Int32) &&& 31)).toInt8.toInt32))) 0) &&& (255 : Int32)) <<< ((0 : Int32) &&& 31)) ||| ((((updI (updI (fun _ => (0 : Int32)) 0 (nar .byte (((ar_a1 0) >>> ((0 : Int32) &&& 31)).toInt8.toInt32))) 1 (nar .byte (((ar_a1 0) >>> ((8 : Int32) &&& 31)).toInt8.toInt32))) 1) &&& (255 : Int32)) <<< ((8 : Int32) &&& 31))).toUInt32.toUInt16.toUInt32.toInt32)) := (show (255 : Int32) < own_utf ((updI (updI (fun _ => (0 : Int32)) 0 (nar .byte (((ar_a1 0) >>> ((0 : Int32) &&& 31)).toInt8.toInt32))) 1 (nar .byte (((ar_a1 0) >>> ((8 : Int32) &&& 31)).toInt8.toInt32))) 0) ((updI (updI (fun _ => (0 : Int32)) 0 (nar .byte (((ar_a1 0) >>> ((0 : Int32) &&& 31)).toInt8.toInt32))) 1 (nar .byte (((ar_a1 0) >>> ((8 : Int32) &&& 31)).toInt8.toInt32))) 1) from own_gt (g := (updI (updI (fun _ => (0 : Int32)) 0 (nar .byte (((ar_a1 0) >>> ((0 : Int32) &&& 31)).toInt8.toInt32))) 1 (nar .byte (((ar_a1 0) >>> ((8 : Int32) &&& 31)).toInt8.toInt32)))) (i0 := 0) (i1 := 1) (c := (ar_a1 0)) rfl rfl (hrg 0) hk)
  refine own_icmp_gt X hx hby d7_38 54 41 (by decide) rfl (fun _ => ?_) (fun q => absurd c38 q)
  refine own_aload X hx hby (.ref b23b1b4) d7_54 rfl rfl 56 rfl ?_
  refine own_retA X hx hby hret hlk rfl rfl rfl d7_56 (by decide) (by decide) ?_
  rw [eT]
  exact ⟨b1, b23b1b4, rfl, N, K, sz_b1, sz_b23b1b4, A_b1, E_b1, A_b23b1b4, E_b23b1b4⟩
theorem ef_7_1_1 (a1 : Addr) (m : MethodId) : entryFrame m #[(.ref a1), (.int (0 : Int32)), (.int (1 : Int32))] 6 = mkF m 0 #[.val (.ref a1), .val (.int (0 : Int32)), .val (.int (1 : Int32)), .unset, .unset, .unset] [] := by first | (simp [entryFrame, mkF, argsToLocals, Value.category]; done) | rfl
def Q7_1_1 (Z : State) (a1 : Addr) (ar_a1 : Nat → Int32) (h0 : Heap) (n0 : Nat) (v : Option Value) (h : Heap) (L : List Loc) : Prop := ∃ (b1 : Addr), v = some (.ref b1) ∧ Fr n0 L ∧ Keep h0 h [] ∧ h0.size ≤ b1 ∧ Afi Z h b1 .byte 1 (updI (fun _ => (0 : Int32)) 0 (nar .byte ((ar_a1 0).toInt8.toInt32))) ∧ Exa Z h b1 "[B"
set_option maxRecDepth 65536 in
set_option maxHeartbeats 40000000 in
theorem rm7_1_1 (l : Launch) (Z : State) (a0 : Array Value) (hw : ∀ d ∈ tables_1, d.before a0 Z = true) (a1 : Addr) (ar_a1 : Nat → Int32) (h0 : Heap) (n0 : Nat) (Zs : n0 ≤ h0.size) (hc0 : ¬ (255 : Int32) < (ar_a1 0)) (A_a1 : Afi Z h0 a1 .char 1 ar_a1) (E_a1 : Exa Z h0 a1 "[C") (g_a1 : n0 ≤ a1) :
    Met1 l Z (⟨"java/lang/StringUTF16", "compress", "([CII)[B"⟩ : MethodName) jdk_52_method_16_code 6 (some (.array .byte)) ({ frames := 1, cells := 1, slots := 1, locals := 18 } : Room) #[(.ref a1), (.int (0 : Int32)), (.int (1 : Int32))] h0 (Q7_1_1 Z a1 ar_a1 h0 n0) := by
  refine own_met_of (plainFor_of_name pn_33) (ef_7_1_1 a1) ?_
  intro p e s m below meth c s₁ X hx hby hml hZ hown hnm hret hlk eT
  have hown : s.vm.findClass "java/lang/StringUTF16" = some m.cls := hown
  have N := Fr.nil n0
  have K := Keep.refl h0 []
  refine own_iloadN X hx hby (1 : Int32) d7_0 rfl 1 rfl ?_
  refine own_newarray X hx hby hZ (hw _ (List.mem_of_getElem? (i := 21) rfl)) eT d7_1 (z := (1 : Int32)) (by decide) (n := 1) rfl (cap := 1) (by decide) (by decide) (by decide) (by decide) (ad := "[B") rfl 3 rfl ?_
  intro T1 h1 b1 gb1 X eT Ex A A2
  have g_b1 : n0 ≤ b1 := by rw [gb1]; exact Zs
  have sz_b1 : h0.size ≤ b1 := by rw [gb1]; exact K.1
  have ne_a1_b1 : a1 ≠ b1 := Nat.ne_of_lt (by rw [gb1]; exact A_a1.lt)
  have A_a1 := A_a1.ext Ex
  have E_a1 := E_a1.ext Ex
  have A_b1 : Afi Z h1 b1 .byte 1 (fun _ => (0 : Int32)) := A
  have E_b1 := A2
  have K := K.ext Ex
  have Zs := Nat.le_trans Zs Ex.1
  refine own_astoreN X hx hby d7_3 rfl (l' := #[.val (.ref a1), .val (.int (0 : Int32)), .val (.int (1 : Int32)), .val (.ref b1), .unset, .unset]) rfl 4 rfl ?_
  refine own_aloadN X hx hby (.ref a1) d7_4 rfl rfl 5 rfl ?_
  refine own_iloadN X hx hby (0 : Int32) d7_5 rfl 6 rfl ?_
  refine own_aloadN X hx hby (.ref b1) d7_6 rfl rfl 7 rfl ?_
  refine own_iconst X hx hby (0 : Int32) d7_7 rfl 8 rfl ?_
  refine own_iloadN X hx hby (1 : Int32) d7_8 rfl 9 rfl ?_
  refine own_callS X hx hby hZ (st := []) [(.ref a1), (.int (0 : Int32)), (.ref b1), (.int (0 : Int32)), (.int (1 : Int32))] rfl hown (hw _ (List.mem_of_getElem? (i := 42) rfl)) (hw _ (List.mem_of_getElem? (i := 43) rfl)) (hw _ (List.mem_of_getElem? (i := 40) rfl)) (hw _ (List.mem_of_getElem? (i := 44) rfl)) (by decide) d7_9 (rm8_1_1 l Z a0 hw a1 b1 ar_a1 (fun _ => (0 : Int32)) h1 n0 Zs hc0 A_a1 E_a1 A_b1 E_b1 g_a1 g_b1) eT pd_22 rfl (by rw [hml]; rfl) (by decide) 0 rfl (by decide) (by decide) (by decide) 12 rfl ?_
  intro T9 L9 v9 X hQ
  obtain ⟨h9, eT⟩ : ∃ z, T9.heap = z := ⟨_, rfl⟩
  rw [eT] at hQ
  obtain ⟨rfl, N9, Kc, A_b1, E_b1⟩ := hQ
  have A_a1 := A_a1.keep Kc (ninS ne_a1_b1 nin0)
  have E_a1 := E_a1.keep Kc
  have K := K.trans Kc (allS (Or.inr sz_b1) all0)
  have Zs := Nat.le_trans Zs Kc.1
  have N := Fr.app N N9
  show Go p e below _ T9 (mkF m 12 #[.val (.ref a1), .val (.int (0 : Int32)), .val (.int (1 : Int32)), .val (.ref b1), .unset, .unset] [(.int (1 : Int32))])
  refine own_istore X hx hby d7_12 rfl (l' := #[.val (.ref a1), .val (.int (0 : Int32)), .val (.int (1 : Int32)), .val (.ref b1), .val (.int (1 : Int32)), .unset]) rfl 14 rfl ?_
  refine own_iload X hx hby (1 : Int32) d7_14 rfl 16 rfl ?_
  refine own_iloadN X hx hby (1 : Int32) d7_16 rfl 17 rfl ?_
  have c17 : (1 : Int32) = (1 : Int32) := by decide
  refine own_icmp_eq X hx hby d7_17 57 20 (by decide) rfl (fun _ => ?_) (fun q => absurd c17 q)
  refine own_aloadN X hx hby (.ref b1) d7_57 rfl rfl 58 rfl ?_
  refine own_retA X hx hby hret hlk rfl rfl rfl d7_58 (by decide) (by decide) ?_
  rw [eT]
  exact ⟨b1, rfl, N, K, sz_b1, A_b1, E_b1⟩
theorem ef_7_2_0 (a1 : Addr) (m : MethodId) : entryFrame m #[(.ref a1), (.int (0 : Int32)), (.int (2 : Int32))] 6 = mkF m 0 #[.val (.ref a1), .val (.int (0 : Int32)), .val (.int (2 : Int32)), .unset, .unset, .unset] [] := by first | (simp [entryFrame, mkF, argsToLocals, Value.category]; done) | rfl
def Q7_2_0 (Z : State) (a1 : Addr) (ar_a1 : Nat → Int32) (h0 : Heap) (n0 : Nat) (v : Option Value) (h : Heap) (L : List Loc) : Prop := ∃ (b1 : Addr) (b23b1b4 : Addr), v = some (.ref b23b1b4) ∧ Fr n0 L ∧ Keep h0 h [] ∧ h0.size ≤ b1 ∧ h0.size ≤ b23b1b4 ∧ Afi Z h b1 .byte 2 (fun _ => (0 : Int32)) ∧ Exa Z h b1 "[B" ∧ Afi Z h b23b1b4 .byte 4 (updI (updI (updI (updI (fun _ => (0 : Int32)) 0 (nar .byte (((ar_a1 0) >>> ((0 : Int32) &&& 31)).toInt8.toInt32))) 1 (nar .byte (((ar_a1 0) >>> ((8 : Int32) &&& 31)).toInt8.toInt32))) 2 (nar .byte (((ar_a1 1) >>> ((0 : Int32) &&& 31)).toInt8.toInt32))) 3 (nar .byte (((ar_a1 1) >>> ((8 : Int32) &&& 31)).toInt8.toInt32))) ∧ Exa Z h b23b1b4 "[B"
set_option maxRecDepth 65536 in
set_option maxHeartbeats 40000000 in
theorem rm7_2_0 (l : Launch) (Z : State) (a0 : Array Value) (hw : ∀ d ∈ tables_1, d.before a0 Z = true) (a1 : Addr) (ar_a1 : Nat → Int32) (h0 : Heap) (n0 : Nat) (Zs : n0 ≤ h0.size) (hk : (255 : Int32) < (ar_a1 0)) (hrg : ∀ i, 0 ≤ (ar_a1 i).toInt ∧ (ar_a1 i).toInt < 65536) (A_a1 : Afi Z h0 a1 .char 2 ar_a1) (E_a1 : Exa Z h0 a1 "[C") (S__assertionsDisabled : Sta Z h0 "java/lang/StringUTF16" "$assertionsDisabled" "Z" (.int (1 : Int32))) (S_HI_BYTE_SHIFT : Sta Z h0 "java/lang/StringUTF16" "HI_BYTE_SHIFT" "I" (.int (0 : Int32))) (S_LO_BYTE_SHIFT : Sta Z h0 "java/lang/StringUTF16" "LO_BYTE_SHIFT" "I" (.int (8 : Int32))) (g_a1 : n0 ≤ a1) :
    Met1 l Z (⟨"java/lang/StringUTF16", "compress", "([CII)[B"⟩ : MethodName) jdk_52_method_16_code 6 (some (.array .byte)) ({ frames := 3, cells := 2, slots := 6, locals := 40 } : Room) #[(.ref a1), (.int (0 : Int32)), (.int (2 : Int32))] h0 (Q7_2_0 Z a1 ar_a1 h0 n0) := by
  refine own_met_of (plainFor_of_name pn_33) (ef_7_2_0 a1) ?_
  intro p e s m below meth c s₁ X hx hby hml hZ hown hnm hret hlk eT
  have hown : s.vm.findClass "java/lang/StringUTF16" = some m.cls := hown
  have N := Fr.nil n0
  have K := Keep.refl h0 []
  refine own_iloadN X hx hby (2 : Int32) d7_0 rfl 1 rfl ?_
  refine own_newarray X hx hby hZ (hw _ (List.mem_of_getElem? (i := 21) rfl)) eT d7_1 (z := (2 : Int32)) (by decide) (n := 2) rfl (cap := 2) (by decide) (by decide) (by decide) (by decide) (ad := "[B") rfl 3 rfl ?_
  intro T1 h1 b1 gb1 X eT Ex A A2
  have g_b1 : n0 ≤ b1 := by rw [gb1]; exact Zs
  have sz_b1 : h0.size ≤ b1 := by rw [gb1]; exact K.1
  have ne_a1_b1 : a1 ≠ b1 := Nat.ne_of_lt (by rw [gb1]; exact A_a1.lt)
  have A_a1 := A_a1.ext Ex
  have E_a1 := E_a1.ext Ex
  have A_b1 : Afi Z h1 b1 .byte 2 (fun _ => (0 : Int32)) := A
  have E_b1 := A2
  have K := K.ext Ex
  have Zs := Nat.le_trans Zs Ex.1
  refine own_astoreN X hx hby d7_3 rfl (l' := #[.val (.ref a1), .val (.int (0 : Int32)), .val (.int (2 : Int32)), .val (.ref b1), .unset, .unset]) rfl 4 rfl ?_
  refine own_aloadN X hx hby (.ref a1) d7_4 rfl rfl 5 rfl ?_
  refine own_iloadN X hx hby (0 : Int32) d7_5 rfl 6 rfl ?_
  refine own_aloadN X hx hby (.ref b1) d7_6 rfl rfl 7 rfl ?_
  refine own_iconst X hx hby (0 : Int32) d7_7 rfl 8 rfl ?_
  refine own_iloadN X hx hby (2 : Int32) d7_8 rfl 9 rfl ?_
  refine own_callS X hx hby hZ (st := []) [(.ref a1), (.int (0 : Int32)), (.ref b1), (.int (0 : Int32)), (.int (2 : Int32))] rfl hown (hw _ (List.mem_of_getElem? (i := 42) rfl)) (hw _ (List.mem_of_getElem? (i := 43) rfl)) (hw _ (List.mem_of_getElem? (i := 40) rfl)) (hw _ (List.mem_of_getElem? (i := 44) rfl)) (by decide) d7_9 (rm8_2_0 l Z a0 hw a1 b1 ar_a1 (fun _ => (0 : Int32)) h1 n0 Zs hk A_a1 E_a1 A_b1 E_b1 g_a1 g_b1) eT pd_22 rfl (by rw [hml]; rfl) (by decide) 0 rfl (by decide) (by decide) (by decide) 12 rfl ?_
  intro T9 L9 v9 X hQ
  obtain ⟨rfl, N9, eT⟩ := hQ
  have N := Fr.app N N9
  show Go p e below _ T9 (mkF m 12 #[.val (.ref a1), .val (.int (0 : Int32)), .val (.int (2 : Int32)), .val (.ref b1), .unset, .unset] [(.int (0 : Int32))])
  refine own_istore X hx hby d7_12 rfl (l' := #[.val (.ref a1), .val (.int (0 : Int32)), .val (.int (2 : Int32)), .val (.ref b1), .val (.int (0 : Int32)), .unset]) rfl 14 rfl ?_
  refine own_iload X hx hby (0 : Int32) d7_14 rfl 16 rfl ?_
  refine own_iloadN X hx hby (2 : Int32) d7_16 rfl 17 rfl ?_
  have c17 : ¬ (0 : Int32) = (2 : Int32) := by decide
  refine own_icmp_eq X hx hby d7_17 57 20 (by decide) rfl (fun q => absurd q c17) (fun _ => ?_)
  refine own_aloadN X hx hby (.ref a1) d7_20 rfl rfl 21 rfl ?_
  refine own_iloadN X hx hby (0 : Int32) d7_21 rfl 22 rfl ?_
  refine own_iloadN X hx hby (2 : Int32) d7_22 rfl 23 rfl ?_
  refine own_callS X hx hby hZ (st := []) [(.ref a1), (.int (0 : Int32)), (.int (2 : Int32))] rfl hown (hw _ (List.mem_of_getElem? (i := 115) rfl)) (hw _ (List.mem_of_getElem? (i := 116) rfl)) (hw _ (List.mem_of_getElem? (i := 40) rfl)) (hw _ (List.mem_of_getElem? (i := 117) rfl)) (by decide) d7_23 (rm26_2 l Z a0 hw a1 ar_a1 h1 n0 Zs A_a1 E_a1 (S__assertionsDisabled.ext (own_ext0 K)) (S_HI_BYTE_SHIFT.ext (own_ext0 K)) (S_LO_BYTE_SHIFT.ext (own_ext0 K))) eT pd_20 rfl (by rw [hml]; rfl) (by decide) 0 rfl (by decide) (by decide) (by decide) 26 rfl ?_
  intro T23 L9 v9 X hQ
  obtain ⟨h23, eT⟩ : ∃ z, T23.heap = z := ⟨_, rfl⟩
  rw [eT] at hQ
  have lt_a1 := A_a1.lt
  have lt_b1 := A_b1.lt
  obtain ⟨b23b1b4, rfl, N9, Kc, hs_b23b1b4, A_b23b1b4, E_b23b1b4⟩ := hQ
  have g_b23b1b4 : n0 ≤ b23b1b4 := Nat.le_trans Zs hs_b23b1b4
  have sz_b23b1b4 : h0.size ≤ b23b1b4 := Nat.le_trans K.1 hs_b23b1b4
  have ne_a1_b23b1b4 : a1 ≠ b23b1b4 := Nat.ne_of_lt (Nat.lt_of_lt_of_le lt_a1 hs_b23b1b4)
  have ne_b1_b23b1b4 : b1 ≠ b23b1b4 := Nat.ne_of_lt (Nat.lt_of_lt_of_le lt_b1 hs_b23b1b4)
  have A_a1 := A_a1.keep Kc nin0
  have E_a1 := E_a1.keep Kc
  have A_b1 := A_b1.keep Kc nin0
  have E_b1 := E_b1.keep Kc
  have K := K.trans Kc all0
  have Zs := Nat.le_trans Zs Kc.1
  have N := Fr.app N N9
  show Go p e below _ T23 (mkF m 26 #[.val (.ref a1), .val (.int (0 : Int32)), .val (.int (2 : Int32)), .val (.ref b1), .val (.int (0 : Int32)), .unset] [(.ref b23b1b4)])
  refine own_astore X hx hby d7_26 rfl (l' := #[.val (.ref a1), .val (.int (0 : Int32)), .val (.int (2 : Int32)), .val (.ref b1), .val (.int (0 : Int32)), .val (.ref b23b1b4)]) rfl 28 rfl ?_
  refine own_aload X hx hby (.ref b23b1b4) d7_28 rfl rfl 30 rfl ?_
  refine own_iload X hx hby (0 : Int32) d7_30 rfl 32 rfl ?_
  refine own_callS X hx hby hZ (st := []) [(.ref b23b1b4), (.int (0 : Int32))] rfl hown (hw _ (List.mem_of_getElem? (i := 131) rfl)) (hw _ (List.mem_of_getElem? (i := 132) rfl)) (hw _ (List.mem_of_getElem? (i := 40) rfl)) (hw _ (List.mem_of_getElem? (i := 133) rfl)) (by decide) d7_32 (rm30_0 l Z a0 hw b23b1b4 (updI (updI (updI (updI (fun _ => (0 : Int32)) 0 (nar .byte (((ar_a1 0) >>> ((0 : Int32) &&& 31)).toInt8.toInt32))) 1 (nar .byte (((ar_a1 0) >>> ((8 : Int32) &&& 31)).toInt8.toInt32))) 2 (nar .byte (((ar_a1 1) >>> ((0 : Int32) &&& 31)).toInt8.toInt32))) 3 (nar .byte (((ar_a1 1) >>> ((8 : Int32) &&& 31)).toInt8.toInt32))) 4 h23 n0 Zs (by decide) (by decide) A_b23b1b4 (S__assertionsDisabled.ext (own_ext0 K)) (S_HI_BYTE_SHIFT.ext (own_ext0 K)) (S_LO_BYTE_SHIFT.ext (own_ext0 K))) eT pd_16 rfl (by rw [hml]; rfl) (by decide) 0 rfl (by decide) (by decide) (by decide) 35 rfl ?_
  intro T32 L9 v9 X hQ
  obtain ⟨rfl, N9, eT⟩ := hQ
  have N := Fr.app N N9
  show Go p e below _ T32 (mkF m 35 #[.val (.ref a1), .val (.int (0 : Int32)), .val (.int (2 : Int32)), .val (.ref b1), .val (.int (0 : Int32)), .val (.ref b23b1b4)] [(.int (nar .char ((((((updI (updI (updI (updI (fun _ => (0 : Int32)) 0 (nar .byte (((ar_a1 0) >>> ((0 : Int32) &&& 31)).toInt8.toInt32))) 1 (nar .byte (((ar_a1 0) >>> ((8 : Int32) &&& 31)).toInt8.toInt32))) 2 (nar .byte (((ar_a1 1) >>> ((0 : Int32) &&& 31)).toInt8.toInt32))) 3 (nar .byte (((ar_a1 1) >>> ((8 : Int32) &&& 31)).toInt8.toInt32))) 0) &&& (255 : Int32)) <<< ((0 : Int32) &&& 31)) ||| ((((updI (updI (updI (updI (fun _ => (0 : Int32)) 0 (nar .byte (((ar_a1 0) >>> ((0 : Int32) &&& 31)).toInt8.toInt32))) 1 (nar .byte (((ar_a1 0) >>> ((8 : Int32) &&& 31)).toInt8.toInt32))) 2 (nar .byte (((ar_a1 1) >>> ((0 : Int32) &&& 31)).toInt8.toInt32))) 3 (nar .byte (((ar_a1 1) >>> ((8 : Int32) &&& 31)).toInt8.toInt32))) 1) &&& (255 : Int32)) <<< ((8 : Int32) &&& 31))).toUInt32.toUInt16.toUInt32.toInt32)))])
  refine own_sipush X hx hby (255 : Int32) d7_35 rfl 38 rfl ?_
  have c38 : (255 : Int32) < (nar .char ((((((updI (updI (updI (updI (fun _ => (0 : Int32)) 0 (nar .byte (((ar_a1 0) >>> ((0 : Int32) &&& 31)).toInt8.toInt32))) 1 (nar .byte (((ar_a1 0) >>> ((8 : Int32) &&& 31)).toInt8.toInt32))) 2 (nar .byte (((ar_a1 1) >>> ((0 : Int32) &&& 31)).toInt8.toInt32))) 3 (nar .byte (((ar_a1 1) >>> ((8 : Int32) &&& 31)).toInt8.toInt32))) 0) &&& (255 : Int32)) <<< ((0 : Int32) &&& 31)) ||| ((((updI (updI (updI (updI (fun _ => (0 : Int32)) 0 (nar .byte (((ar_a1 0) >>> ((0 : Int32) &&& 31)).toInt8.toInt32))) 1 (nar .byte (((ar_a1 0) >>> ((8 : Int32) &&& 31)).toInt8.toInt32))) 2 (nar .byte (((ar_a1 1) >>> ((0 : Int32) &&& 31)).toInt8.toInt32))) 3 (nar .byte (((ar_a1 1) >>> ((8 : Int32) &&& 31)).toInt8.toInt32))) 1) &&& (255 : Int32)) <<< ((8 : Int32) &&& 31))).toUInt32.toUInt16.toUInt32.toInt32)) := (show (255 : Int32) < own_utf ((updI (updI (updI (updI (fun _ => (0 : Int32)) 0 (nar .byte (((ar_a1 0) >>> ((0 : Int32) &&& 31)).toInt8.toInt32))) 1 (nar .byte (((ar_a1 0) >>> ((8 : Int32) &&& 31)).toInt8.toInt32))) 2 (nar .byte (((ar_a1 1) >>> ((0 : Int32) &&& 31)).toInt8.toInt32))) 3 (nar .byte (((ar_a1 1) >>> ((8 : Int32) &&& 31)).toInt8.toInt32))) 0) ((updI (updI (updI (updI (fun _ => (0 : Int32)) 0 (nar .byte (((ar_a1 0) >>> ((0 : Int32) &&& 31)).toInt8.toInt32))) 1 (nar .byte (((ar_a1 0) >>> ((8 : Int32) &&& 31)).toInt8.toInt32))) 2 (nar .byte (((ar_a1 1) >>> ((0 : Int32) &&& 31)).toInt8.toInt32))) 3 (nar .byte (((ar_a1 1) >>> ((8 : Int32) &&& 31)).toInt8.toInt32))) 1) from own_gt (g := (updI (updI (updI (updI (fun _ => (0 : Int32)) 0 (nar .byte (((ar_a1 0) >>> ((0 : Int32) &&& 31)).toInt8.toInt32))) 1 (nar .byte (((ar_a1 0) >>> ((8 : Int32) &&& 31)).toInt8.toInt32))) 2 (nar .byte (((ar_a1 1) >>> ((0 : Int32) &&& 31)).toInt8.toInt32))) 3 (nar .byte (((ar_a1 1) >>> ((8 : Int32) &&& 31)).toInt8.toInt32)))) (i0 := 0) (i1 := 1) (c := (ar_a1 0)) rfl rfl (hrg 0) hk)
  refine own_icmp_gt X hx hby d7_38 54 41 (by decide) rfl (fun _ => ?_) (fun q => absurd c38 q)
  refine own_aload X hx hby (.ref b23b1b4) d7_54 rfl rfl 56 rfl ?_
  refine own_retA X hx hby hret hlk rfl rfl rfl d7_56 (by decide) (by decide) ?_
  rw [eT]
  exact ⟨b1, b23b1b4, rfl, N, K, sz_b1, sz_b23b1b4, A_b1, E_b1, A_b23b1b4, E_b23b1b4⟩
theorem ef_7_2_1 (a1 : Addr) (m : MethodId) : entryFrame m #[(.ref a1), (.int (0 : Int32)), (.int (2 : Int32))] 6 = mkF m 0 #[.val (.ref a1), .val (.int (0 : Int32)), .val (.int (2 : Int32)), .unset, .unset, .unset] [] := by first | (simp [entryFrame, mkF, argsToLocals, Value.category]; done) | rfl
def Q7_2_1 (Z : State) (a1 : Addr) (ar_a1 : Nat → Int32) (h0 : Heap) (n0 : Nat) (v : Option Value) (h : Heap) (L : List Loc) : Prop := ∃ (b1 : Addr) (b23b1b4 : Addr), v = some (.ref b23b1b4) ∧ Fr n0 L ∧ Keep h0 h [] ∧ h0.size ≤ b1 ∧ h0.size ≤ b23b1b4 ∧ Afi Z h b1 .byte 2 (updI (fun _ => (0 : Int32)) 0 (nar .byte ((ar_a1 0).toInt8.toInt32))) ∧ Exa Z h b1 "[B" ∧ Afi Z h b23b1b4 .byte 4 (updI (updI (updI (updI (fun _ => (0 : Int32)) 0 (nar .byte (((ar_a1 0) >>> ((0 : Int32) &&& 31)).toInt8.toInt32))) 1 (nar .byte (((ar_a1 0) >>> ((8 : Int32) &&& 31)).toInt8.toInt32))) 2 (nar .byte (((ar_a1 1) >>> ((0 : Int32) &&& 31)).toInt8.toInt32))) 3 (nar .byte (((ar_a1 1) >>> ((8 : Int32) &&& 31)).toInt8.toInt32))) ∧ Exa Z h b23b1b4 "[B"
set_option maxRecDepth 65536 in
set_option maxHeartbeats 40000000 in
theorem rm7_2_1 (l : Launch) (Z : State) (a0 : Array Value) (hw : ∀ d ∈ tables_1, d.before a0 Z = true) (a1 : Addr) (ar_a1 : Nat → Int32) (h0 : Heap) (n0 : Nat) (Zs : n0 ≤ h0.size) (hc0 : ¬ (255 : Int32) < (ar_a1 0)) (hk : (255 : Int32) < (ar_a1 1)) (hrg : ∀ i, 0 ≤ (ar_a1 i).toInt ∧ (ar_a1 i).toInt < 65536) (A_a1 : Afi Z h0 a1 .char 2 ar_a1) (E_a1 : Exa Z h0 a1 "[C") (S__assertionsDisabled : Sta Z h0 "java/lang/StringUTF16" "$assertionsDisabled" "Z" (.int (1 : Int32))) (S_HI_BYTE_SHIFT : Sta Z h0 "java/lang/StringUTF16" "HI_BYTE_SHIFT" "I" (.int (0 : Int32))) (S_LO_BYTE_SHIFT : Sta Z h0 "java/lang/StringUTF16" "LO_BYTE_SHIFT" "I" (.int (8 : Int32))) (g_a1 : n0 ≤ a1) :
    Met1 l Z (⟨"java/lang/StringUTF16", "compress", "([CII)[B"⟩ : MethodName) jdk_52_method_16_code 6 (some (.array .byte)) ({ frames := 3, cells := 2, slots := 6, locals := 40 } : Room) #[(.ref a1), (.int (0 : Int32)), (.int (2 : Int32))] h0 (Q7_2_1 Z a1 ar_a1 h0 n0) := by
  refine own_met_of (plainFor_of_name pn_33) (ef_7_2_1 a1) ?_
  intro p e s m below meth c s₁ X hx hby hml hZ hown hnm hret hlk eT
  have hown : s.vm.findClass "java/lang/StringUTF16" = some m.cls := hown
  have N := Fr.nil n0
  have K := Keep.refl h0 []
  refine own_iloadN X hx hby (2 : Int32) d7_0 rfl 1 rfl ?_
  refine own_newarray X hx hby hZ (hw _ (List.mem_of_getElem? (i := 21) rfl)) eT d7_1 (z := (2 : Int32)) (by decide) (n := 2) rfl (cap := 2) (by decide) (by decide) (by decide) (by decide) (ad := "[B") rfl 3 rfl ?_
  intro T1 h1 b1 gb1 X eT Ex A A2
  have g_b1 : n0 ≤ b1 := by rw [gb1]; exact Zs
  have sz_b1 : h0.size ≤ b1 := by rw [gb1]; exact K.1
  have ne_a1_b1 : a1 ≠ b1 := Nat.ne_of_lt (by rw [gb1]; exact A_a1.lt)
  have A_a1 := A_a1.ext Ex
  have E_a1 := E_a1.ext Ex
  have A_b1 : Afi Z h1 b1 .byte 2 (fun _ => (0 : Int32)) := A
  have E_b1 := A2
  have K := K.ext Ex
  have Zs := Nat.le_trans Zs Ex.1
  refine own_astoreN X hx hby d7_3 rfl (l' := #[.val (.ref a1), .val (.int (0 : Int32)), .val (.int (2 : Int32)), .val (.ref b1), .unset, .unset]) rfl 4 rfl ?_
  refine own_aloadN X hx hby (.ref a1) d7_4 rfl rfl 5 rfl ?_
  refine own_iloadN X hx hby (0 : Int32) d7_5 rfl 6 rfl ?_
  refine own_aloadN X hx hby (.ref b1) d7_6 rfl rfl 7 rfl ?_
  refine own_iconst X hx hby (0 : Int32) d7_7 rfl 8 rfl ?_
  refine own_iloadN X hx hby (2 : Int32) d7_8 rfl 9 rfl ?_
  refine own_callS X hx hby hZ (st := []) [(.ref a1), (.int (0 : Int32)), (.ref b1), (.int (0 : Int32)), (.int (2 : Int32))] rfl hown (hw _ (List.mem_of_getElem? (i := 42) rfl)) (hw _ (List.mem_of_getElem? (i := 43) rfl)) (hw _ (List.mem_of_getElem? (i := 40) rfl)) (hw _ (List.mem_of_getElem? (i := 44) rfl)) (by decide) d7_9 (rm8_2_1 l Z a0 hw a1 b1 ar_a1 (fun _ => (0 : Int32)) h1 n0 Zs hc0 hk A_a1 E_a1 A_b1 E_b1 g_a1 g_b1) eT pd_22 rfl (by rw [hml]; rfl) (by decide) 0 rfl (by decide) (by decide) (by decide) 12 rfl ?_
  intro T9 L9 v9 X hQ
  obtain ⟨h9, eT⟩ : ∃ z, T9.heap = z := ⟨_, rfl⟩
  rw [eT] at hQ
  obtain ⟨rfl, N9, Kc, A_b1, E_b1⟩ := hQ
  have A_a1 := A_a1.keep Kc (ninS ne_a1_b1 nin0)
  have E_a1 := E_a1.keep Kc
  have K := K.trans Kc (allS (Or.inr sz_b1) all0)
  have Zs := Nat.le_trans Zs Kc.1
  have N := Fr.app N N9
  show Go p e below _ T9 (mkF m 12 #[.val (.ref a1), .val (.int (0 : Int32)), .val (.int (2 : Int32)), .val (.ref b1), .unset, .unset] [(.int (1 : Int32))])
  refine own_istore X hx hby d7_12 rfl (l' := #[.val (.ref a1), .val (.int (0 : Int32)), .val (.int (2 : Int32)), .val (.ref b1), .val (.int (1 : Int32)), .unset]) rfl 14 rfl ?_
  refine own_iload X hx hby (1 : Int32) d7_14 rfl 16 rfl ?_
  refine own_iloadN X hx hby (2 : Int32) d7_16 rfl 17 rfl ?_
  have c17 : ¬ (1 : Int32) = (2 : Int32) := by decide
  refine own_icmp_eq X hx hby d7_17 57 20 (by decide) rfl (fun q => absurd q c17) (fun _ => ?_)
  refine own_aloadN X hx hby (.ref a1) d7_20 rfl rfl 21 rfl ?_
  refine own_iloadN X hx hby (0 : Int32) d7_21 rfl 22 rfl ?_
  refine own_iloadN X hx hby (2 : Int32) d7_22 rfl 23 rfl ?_
  refine own_callS X hx hby hZ (st := []) [(.ref a1), (.int (0 : Int32)), (.int (2 : Int32))] rfl hown (hw _ (List.mem_of_getElem? (i := 115) rfl)) (hw _ (List.mem_of_getElem? (i := 116) rfl)) (hw _ (List.mem_of_getElem? (i := 40) rfl)) (hw _ (List.mem_of_getElem? (i := 117) rfl)) (by decide) d7_23 (rm26_2 l Z a0 hw a1 ar_a1 h9 n0 Zs A_a1 E_a1 (S__assertionsDisabled.ext (own_ext0 K)) (S_HI_BYTE_SHIFT.ext (own_ext0 K)) (S_LO_BYTE_SHIFT.ext (own_ext0 K))) eT pd_20 rfl (by rw [hml]; rfl) (by decide) 0 rfl (by decide) (by decide) (by decide) 26 rfl ?_
  intro T23 L9 v9 X hQ
  obtain ⟨h23, eT⟩ : ∃ z, T23.heap = z := ⟨_, rfl⟩
  rw [eT] at hQ
  have lt_a1 := A_a1.lt
  have lt_b1 := A_b1.lt
  obtain ⟨b23b1b4, rfl, N9, Kc, hs_b23b1b4, A_b23b1b4, E_b23b1b4⟩ := hQ
  have g_b23b1b4 : n0 ≤ b23b1b4 := Nat.le_trans Zs hs_b23b1b4
  have sz_b23b1b4 : h0.size ≤ b23b1b4 := Nat.le_trans K.1 hs_b23b1b4
  have ne_a1_b23b1b4 : a1 ≠ b23b1b4 := Nat.ne_of_lt (Nat.lt_of_lt_of_le lt_a1 hs_b23b1b4)
  have ne_b1_b23b1b4 : b1 ≠ b23b1b4 := Nat.ne_of_lt (Nat.lt_of_lt_of_le lt_b1 hs_b23b1b4)
  have A_a1 := A_a1.keep Kc nin0
  have E_a1 := E_a1.keep Kc
  have A_b1 := A_b1.keep Kc nin0
  have E_b1 := E_b1.keep Kc
  have K := K.trans Kc all0
  have Zs := Nat.le_trans Zs Kc.1
  have N := Fr.app N N9
  show Go p e below _ T23 (mkF m 26 #[.val (.ref a1), .val (.int (0 : Int32)), .val (.int (2 : Int32)), .val (.ref b1), .val (.int (1 : Int32)), .unset] [(.ref b23b1b4)])
  refine own_astore X hx hby d7_26 rfl (l' := #[.val (.ref a1), .val (.int (0 : Int32)), .val (.int (2 : Int32)), .val (.ref b1), .val (.int (1 : Int32)), .val (.ref b23b1b4)]) rfl 28 rfl ?_
  refine own_aload X hx hby (.ref b23b1b4) d7_28 rfl rfl 30 rfl ?_
  refine own_iload X hx hby (1 : Int32) d7_30 rfl 32 rfl ?_
  refine own_callS X hx hby hZ (st := []) [(.ref b23b1b4), (.int (1 : Int32))] rfl hown (hw _ (List.mem_of_getElem? (i := 131) rfl)) (hw _ (List.mem_of_getElem? (i := 132) rfl)) (hw _ (List.mem_of_getElem? (i := 40) rfl)) (hw _ (List.mem_of_getElem? (i := 133) rfl)) (by decide) d7_32 (rm30_1 l Z a0 hw b23b1b4 (updI (updI (updI (updI (fun _ => (0 : Int32)) 0 (nar .byte (((ar_a1 0) >>> ((0 : Int32) &&& 31)).toInt8.toInt32))) 1 (nar .byte (((ar_a1 0) >>> ((8 : Int32) &&& 31)).toInt8.toInt32))) 2 (nar .byte (((ar_a1 1) >>> ((0 : Int32) &&& 31)).toInt8.toInt32))) 3 (nar .byte (((ar_a1 1) >>> ((8 : Int32) &&& 31)).toInt8.toInt32))) 4 h23 n0 Zs (by decide) (by decide) A_b23b1b4 (S__assertionsDisabled.ext (own_ext0 K)) (S_HI_BYTE_SHIFT.ext (own_ext0 K)) (S_LO_BYTE_SHIFT.ext (own_ext0 K))) eT pd_16 rfl (by rw [hml]; rfl) (by decide) 0 rfl (by decide) (by decide) (by decide) 35 rfl ?_
  intro T32 L9 v9 X hQ
  obtain ⟨rfl, N9, eT⟩ := hQ
  have N := Fr.app N N9
  show Go p e below _ T32 (mkF m 35 #[.val (.ref a1), .val (.int (0 : Int32)), .val (.int (2 : Int32)), .val (.ref b1), .val (.int (1 : Int32)), .val (.ref b23b1b4)] [(.int (nar .char ((((((updI (updI (updI (updI (fun _ => (0 : Int32)) 0 (nar .byte (((ar_a1 0) >>> ((0 : Int32) &&& 31)).toInt8.toInt32))) 1 (nar .byte (((ar_a1 0) >>> ((8 : Int32) &&& 31)).toInt8.toInt32))) 2 (nar .byte (((ar_a1 1) >>> ((0 : Int32) &&& 31)).toInt8.toInt32))) 3 (nar .byte (((ar_a1 1) >>> ((8 : Int32) &&& 31)).toInt8.toInt32))) 2) &&& (255 : Int32)) <<< ((0 : Int32) &&& 31)) ||| ((((updI (updI (updI (updI (fun _ => (0 : Int32)) 0 (nar .byte (((ar_a1 0) >>> ((0 : Int32) &&& 31)).toInt8.toInt32))) 1 (nar .byte (((ar_a1 0) >>> ((8 : Int32) &&& 31)).toInt8.toInt32))) 2 (nar .byte (((ar_a1 1) >>> ((0 : Int32) &&& 31)).toInt8.toInt32))) 3 (nar .byte (((ar_a1 1) >>> ((8 : Int32) &&& 31)).toInt8.toInt32))) 3) &&& (255 : Int32)) <<< ((8 : Int32) &&& 31))).toUInt32.toUInt16.toUInt32.toInt32)))])
  refine own_sipush X hx hby (255 : Int32) d7_35 rfl 38 rfl ?_
  have c38 : (255 : Int32) < (nar .char ((((((updI (updI (updI (updI (fun _ => (0 : Int32)) 0 (nar .byte (((ar_a1 0) >>> ((0 : Int32) &&& 31)).toInt8.toInt32))) 1 (nar .byte (((ar_a1 0) >>> ((8 : Int32) &&& 31)).toInt8.toInt32))) 2 (nar .byte (((ar_a1 1) >>> ((0 : Int32) &&& 31)).toInt8.toInt32))) 3 (nar .byte (((ar_a1 1) >>> ((8 : Int32) &&& 31)).toInt8.toInt32))) 2) &&& (255 : Int32)) <<< ((0 : Int32) &&& 31)) ||| ((((updI (updI (updI (updI (fun _ => (0 : Int32)) 0 (nar .byte (((ar_a1 0) >>> ((0 : Int32) &&& 31)).toInt8.toInt32))) 1 (nar .byte (((ar_a1 0) >>> ((8 : Int32) &&& 31)).toInt8.toInt32))) 2 (nar .byte (((ar_a1 1) >>> ((0 : Int32) &&& 31)).toInt8.toInt32))) 3 (nar .byte (((ar_a1 1) >>> ((8 : Int32) &&& 31)).toInt8.toInt32))) 3) &&& (255 : Int32)) <<< ((8 : Int32) &&& 31))).toUInt32.toUInt16.toUInt32.toInt32)) := (show (255 : Int32) < own_utf ((updI (updI (updI (updI (fun _ => (0 : Int32)) 0 (nar .byte (((ar_a1 0) >>> ((0 : Int32) &&& 31)).toInt8.toInt32))) 1 (nar .byte (((ar_a1 0) >>> ((8 : Int32) &&& 31)).toInt8.toInt32))) 2 (nar .byte (((ar_a1 1) >>> ((0 : Int32) &&& 31)).toInt8.toInt32))) 3 (nar .byte (((ar_a1 1) >>> ((8 : Int32) &&& 31)).toInt8.toInt32))) 2) ((updI (updI (updI (updI (fun _ => (0 : Int32)) 0 (nar .byte (((ar_a1 0) >>> ((0 : Int32) &&& 31)).toInt8.toInt32))) 1 (nar .byte (((ar_a1 0) >>> ((8 : Int32) &&& 31)).toInt8.toInt32))) 2 (nar .byte (((ar_a1 1) >>> ((0 : Int32) &&& 31)).toInt8.toInt32))) 3 (nar .byte (((ar_a1 1) >>> ((8 : Int32) &&& 31)).toInt8.toInt32))) 3) from own_gt (g := (updI (updI (updI (updI (fun _ => (0 : Int32)) 0 (nar .byte (((ar_a1 0) >>> ((0 : Int32) &&& 31)).toInt8.toInt32))) 1 (nar .byte (((ar_a1 0) >>> ((8 : Int32) &&& 31)).toInt8.toInt32))) 2 (nar .byte (((ar_a1 1) >>> ((0 : Int32) &&& 31)).toInt8.toInt32))) 3 (nar .byte (((ar_a1 1) >>> ((8 : Int32) &&& 31)).toInt8.toInt32)))) (i0 := 2) (i1 := 3) (c := (ar_a1 1)) rfl rfl (hrg 1) hk)
  refine own_icmp_gt X hx hby d7_38 54 41 (by decide) rfl (fun _ => ?_) (fun q => absurd c38 q)
  refine own_aload X hx hby (.ref b23b1b4) d7_54 rfl rfl 56 rfl ?_
  refine own_retA X hx hby hret hlk rfl rfl rfl d7_56 (by decide) (by decide) ?_
  rw [eT]
  exact ⟨b1, b23b1b4, rfl, N, K, sz_b1, sz_b23b1b4, A_b1, E_b1, A_b23b1b4, E_b23b1b4⟩
theorem ef_7_2_2 (a1 : Addr) (m : MethodId) : entryFrame m #[(.ref a1), (.int (0 : Int32)), (.int (2 : Int32))] 6 = mkF m 0 #[.val (.ref a1), .val (.int (0 : Int32)), .val (.int (2 : Int32)), .unset, .unset, .unset] [] := by first | (simp [entryFrame, mkF, argsToLocals, Value.category]; done) | rfl
def Q7_2_2 (Z : State) (a1 : Addr) (ar_a1 : Nat → Int32) (h0 : Heap) (n0 : Nat) (v : Option Value) (h : Heap) (L : List Loc) : Prop := ∃ (b1 : Addr), v = some (.ref b1) ∧ Fr n0 L ∧ Keep h0 h [] ∧ h0.size ≤ b1 ∧ Afi Z h b1 .byte 2 (updI (updI (fun _ => (0 : Int32)) 0 (nar .byte ((ar_a1 0).toInt8.toInt32))) 1 (nar .byte ((ar_a1 1).toInt8.toInt32))) ∧ Exa Z h b1 "[B"
set_option maxRecDepth 65536 in
set_option maxHeartbeats 40000000 in
theorem rm7_2_2 (l : Launch) (Z : State) (a0 : Array Value) (hw : ∀ d ∈ tables_1, d.before a0 Z = true) (a1 : Addr) (ar_a1 : Nat → Int32) (h0 : Heap) (n0 : Nat) (Zs : n0 ≤ h0.size) (hc0 : ¬ (255 : Int32) < (ar_a1 0)) (hc1 : ¬ (255 : Int32) < (ar_a1 1)) (A_a1 : Afi Z h0 a1 .char 2 ar_a1) (E_a1 : Exa Z h0 a1 "[C") (g_a1 : n0 ≤ a1) :
    Met1 l Z (⟨"java/lang/StringUTF16", "compress", "([CII)[B"⟩ : MethodName) jdk_52_method_16_code 6 (some (.array .byte)) ({ frames := 1, cells := 1, slots := 2, locals := 18 } : Room) #[(.ref a1), (.int (0 : Int32)), (.int (2 : Int32))] h0 (Q7_2_2 Z a1 ar_a1 h0 n0) := by
  refine own_met_of (plainFor_of_name pn_33) (ef_7_2_2 a1) ?_
  intro p e s m below meth c s₁ X hx hby hml hZ hown hnm hret hlk eT
  have hown : s.vm.findClass "java/lang/StringUTF16" = some m.cls := hown
  have N := Fr.nil n0
  have K := Keep.refl h0 []
  refine own_iloadN X hx hby (2 : Int32) d7_0 rfl 1 rfl ?_
  refine own_newarray X hx hby hZ (hw _ (List.mem_of_getElem? (i := 21) rfl)) eT d7_1 (z := (2 : Int32)) (by decide) (n := 2) rfl (cap := 2) (by decide) (by decide) (by decide) (by decide) (ad := "[B") rfl 3 rfl ?_
  intro T1 h1 b1 gb1 X eT Ex A A2
  have g_b1 : n0 ≤ b1 := by rw [gb1]; exact Zs
  have sz_b1 : h0.size ≤ b1 := by rw [gb1]; exact K.1
  have ne_a1_b1 : a1 ≠ b1 := Nat.ne_of_lt (by rw [gb1]; exact A_a1.lt)
  have A_a1 := A_a1.ext Ex
  have E_a1 := E_a1.ext Ex
  have A_b1 : Afi Z h1 b1 .byte 2 (fun _ => (0 : Int32)) := A
  have E_b1 := A2
  have K := K.ext Ex
  have Zs := Nat.le_trans Zs Ex.1
  refine own_astoreN X hx hby d7_3 rfl (l' := #[.val (.ref a1), .val (.int (0 : Int32)), .val (.int (2 : Int32)), .val (.ref b1), .unset, .unset]) rfl 4 rfl ?_
  refine own_aloadN X hx hby (.ref a1) d7_4 rfl rfl 5 rfl ?_
  refine own_iloadN X hx hby (0 : Int32) d7_5 rfl 6 rfl ?_
  refine own_aloadN X hx hby (.ref b1) d7_6 rfl rfl 7 rfl ?_
  refine own_iconst X hx hby (0 : Int32) d7_7 rfl 8 rfl ?_
  refine own_iloadN X hx hby (2 : Int32) d7_8 rfl 9 rfl ?_
  refine own_callS X hx hby hZ (st := []) [(.ref a1), (.int (0 : Int32)), (.ref b1), (.int (0 : Int32)), (.int (2 : Int32))] rfl hown (hw _ (List.mem_of_getElem? (i := 42) rfl)) (hw _ (List.mem_of_getElem? (i := 43) rfl)) (hw _ (List.mem_of_getElem? (i := 40) rfl)) (hw _ (List.mem_of_getElem? (i := 44) rfl)) (by decide) d7_9 (rm8_2_2 l Z a0 hw a1 b1 ar_a1 (fun _ => (0 : Int32)) h1 n0 Zs hc0 hc1 A_a1 E_a1 A_b1 E_b1 g_a1 g_b1) eT pd_22 rfl (by rw [hml]; rfl) (by decide) 0 rfl (by decide) (by decide) (by decide) 12 rfl ?_
  intro T9 L9 v9 X hQ
  obtain ⟨h9, eT⟩ : ∃ z, T9.heap = z := ⟨_, rfl⟩
  rw [eT] at hQ
  obtain ⟨rfl, N9, Kc, A_b1, E_b1⟩ := hQ
  have A_a1 := A_a1.keep Kc (ninS ne_a1_b1 nin0)
  have E_a1 := E_a1.keep Kc
  have K := K.trans Kc (allS (Or.inr sz_b1) all0)
  have Zs := Nat.le_trans Zs Kc.1
  have N := Fr.app N N9
  show Go p e below _ T9 (mkF m 12 #[.val (.ref a1), .val (.int (0 : Int32)), .val (.int (2 : Int32)), .val (.ref b1), .unset, .unset] [(.int (2 : Int32))])
  refine own_istore X hx hby d7_12 rfl (l' := #[.val (.ref a1), .val (.int (0 : Int32)), .val (.int (2 : Int32)), .val (.ref b1), .val (.int (2 : Int32)), .unset]) rfl 14 rfl ?_
  refine own_iload X hx hby (2 : Int32) d7_14 rfl 16 rfl ?_
  refine own_iloadN X hx hby (2 : Int32) d7_16 rfl 17 rfl ?_
  have c17 : (2 : Int32) = (2 : Int32) := by decide
  refine own_icmp_eq X hx hby d7_17 57 20 (by decide) rfl (fun _ => ?_) (fun q => absurd c17 q)
  refine own_aloadN X hx hby (.ref b1) d7_57 rfl rfl 58 rfl ?_
  refine own_retA X hx hby hret hlk rfl rfl rfl d7_58 (by decide) (by decide) ?_
  rw [eT]
  exact ⟨b1, rfl, N, K, sz_b1, A_b1, E_b1⟩
theorem ef_7_3_0 (a1 : Addr) (m : MethodId) : entryFrame m #[(.ref a1), (.int (0 : Int32)), (.int (3 : Int32))] 6 = mkF m 0 #[.val (.ref a1), .val (.int (0 : Int32)), .val (.int (3 : Int32)), .unset, .unset, .unset] [] := by first | (simp [entryFrame, mkF, argsToLocals, Value.category]; done) | rfl
def Q7_3_0 (Z : State) (a1 : Addr) (ar_a1 : Nat → Int32) (h0 : Heap) (n0 : Nat) (v : Option Value) (h : Heap) (L : List Loc) : Prop := ∃ (b1 : Addr) (b23b1b4 : Addr), v = some (.ref b23b1b4) ∧ Fr n0 L ∧ Keep h0 h [] ∧ h0.size ≤ b1 ∧ h0.size ≤ b23b1b4 ∧ Afi Z h b1 .byte 3 (fun _ => (0 : Int32)) ∧ Exa Z h b1 "[B" ∧ Afi Z h b23b1b4 .byte 6 (updI (updI (updI (updI (updI (updI (fun _ => (0 : Int32)) 0 (nar .byte (((ar_a1 0) >>> ((0 : Int32) &&& 31)).toInt8.toInt32))) 1 (nar .byte (((ar_a1 0) >>> ((8 : Int32) &&& 31)).toInt8.toInt32))) 2 (nar .byte (((ar_a1 1) >>> ((0 : Int32) &&& 31)).toInt8.toInt32))) 3 (nar .byte (((ar_a1 1) >>> ((8 : Int32) &&& 31)).toInt8.toInt32))) 4 (nar .byte (((ar_a1 2) >>> ((0 : Int32) &&& 31)).toInt8.toInt32))) 5 (nar .byte (((ar_a1 2) >>> ((8 : Int32) &&& 31)).toInt8.toInt32))) ∧ Exa Z h b23b1b4 "[B"
set_option maxRecDepth 65536 in
set_option maxHeartbeats 40000000 in
theorem rm7_3_0 (l : Launch) (Z : State) (a0 : Array Value) (hw : ∀ d ∈ tables_1, d.before a0 Z = true) (a1 : Addr) (ar_a1 : Nat → Int32) (h0 : Heap) (n0 : Nat) (Zs : n0 ≤ h0.size) (hk : (255 : Int32) < (ar_a1 0)) (hrg : ∀ i, 0 ≤ (ar_a1 i).toInt ∧ (ar_a1 i).toInt < 65536) (A_a1 : Afi Z h0 a1 .char 3 ar_a1) (E_a1 : Exa Z h0 a1 "[C") (S__assertionsDisabled : Sta Z h0 "java/lang/StringUTF16" "$assertionsDisabled" "Z" (.int (1 : Int32))) (S_HI_BYTE_SHIFT : Sta Z h0 "java/lang/StringUTF16" "HI_BYTE_SHIFT" "I" (.int (0 : Int32))) (S_LO_BYTE_SHIFT : Sta Z h0 "java/lang/StringUTF16" "LO_BYTE_SHIFT" "I" (.int (8 : Int32))) (g_a1 : n0 ≤ a1) :
    Met1 l Z (⟨"java/lang/StringUTF16", "compress", "([CII)[B"⟩ : MethodName) jdk_52_method_16_code 6 (some (.array .byte)) ({ frames := 3, cells := 2, slots := 9, locals := 40 } : Room) #[(.ref a1), (.int (0 : Int32)), (.int (3 : Int32))] h0 (Q7_3_0 Z a1 ar_a1 h0 n0) := by
  refine own_met_of (plainFor_of_name pn_33) (ef_7_3_0 a1) ?_
  intro p e s m below meth c s₁ X hx hby hml hZ hown hnm hret hlk eT
  have hown : s.vm.findClass "java/lang/StringUTF16" = some m.cls := hown
  have N := Fr.nil n0
  have K := Keep.refl h0 []
  refine own_iloadN X hx hby (3 : Int32) d7_0 rfl 1 rfl ?_
  refine own_newarray X hx hby hZ (hw _ (List.mem_of_getElem? (i := 21) rfl)) eT d7_1 (z := (3 : Int32)) (by decide) (n := 3) rfl (cap := 3) (by decide) (by decide) (by decide) (by decide) (ad := "[B") rfl 3 rfl ?_
  intro T1 h1 b1 gb1 X eT Ex A A2
  have g_b1 : n0 ≤ b1 := by rw [gb1]; exact Zs
  have sz_b1 : h0.size ≤ b1 := by rw [gb1]; exact K.1
  have ne_a1_b1 : a1 ≠ b1 := Nat.ne_of_lt (by rw [gb1]; exact A_a1.lt)
  have A_a1 := A_a1.ext Ex
  have E_a1 := E_a1.ext Ex
  have A_b1 : Afi Z h1 b1 .byte 3 (fun _ => (0 : Int32)) := A
  have E_b1 := A2
  have K := K.ext Ex
  have Zs := Nat.le_trans Zs Ex.1
  refine own_astoreN X hx hby d7_3 rfl (l' := #[.val (.ref a1), .val (.int (0 : Int32)), .val (.int (3 : Int32)), .val (.ref b1), .unset, .unset]) rfl 4 rfl ?_
  refine own_aloadN X hx hby (.ref a1) d7_4 rfl rfl 5 rfl ?_
  refine own_iloadN X hx hby (0 : Int32) d7_5 rfl 6 rfl ?_
  refine own_aloadN X hx hby (.ref b1) d7_6 rfl rfl 7 rfl ?_
  refine own_iconst X hx hby (0 : Int32) d7_7 rfl 8 rfl ?_
  refine own_iloadN X hx hby (3 : Int32) d7_8 rfl 9 rfl ?_
  refine own_callS X hx hby hZ (st := []) [(.ref a1), (.int (0 : Int32)), (.ref b1), (.int (0 : Int32)), (.int (3 : Int32))] rfl hown (hw _ (List.mem_of_getElem? (i := 42) rfl)) (hw _ (List.mem_of_getElem? (i := 43) rfl)) (hw _ (List.mem_of_getElem? (i := 40) rfl)) (hw _ (List.mem_of_getElem? (i := 44) rfl)) (by decide) d7_9 (rm8_3_0 l Z a0 hw a1 b1 ar_a1 (fun _ => (0 : Int32)) h1 n0 Zs hk A_a1 E_a1 A_b1 E_b1 g_a1 g_b1) eT pd_22 rfl (by rw [hml]; rfl) (by decide) 0 rfl (by decide) (by decide) (by decide) 12 rfl ?_
  intro T9 L9 v9 X hQ
  obtain ⟨rfl, N9, eT⟩ := hQ
  have N := Fr.app N N9
  show Go p e below _ T9 (mkF m 12 #[.val (.ref a1), .val (.int (0 : Int32)), .val (.int (3 : Int32)), .val (.ref b1), .unset, .unset] [(.int (0 : Int32))])
  refine own_istore X hx hby d7_12 rfl (l' := #[.val (.ref a1), .val (.int (0 : Int32)), .val (.int (3 : Int32)), .val (.ref b1), .val (.int (0 : Int32)), .unset]) rfl 14 rfl ?_
  refine own_iload X hx hby (0 : Int32) d7_14 rfl 16 rfl ?_
  refine own_iloadN X hx hby (3 : Int32) d7_16 rfl 17 rfl ?_
  have c17 : ¬ (0 : Int32) = (3 : Int32) := by decide
  refine own_icmp_eq X hx hby d7_17 57 20 (by decide) rfl (fun q => absurd q c17) (fun _ => ?_)
  refine own_aloadN X hx hby (.ref a1) d7_20 rfl rfl 21 rfl ?_
  refine own_iloadN X hx hby (0 : Int32) d7_21 rfl 22 rfl ?_
  refine own_iloadN X hx hby (3 : Int32) d7_22 rfl 23 rfl ?_
  refine own_callS X hx hby hZ (st := []) [(.ref a1), (.int (0 : Int32)), (.int (3 : Int32))] rfl hown (hw _ (List.mem_of_getElem? (i := 115) rfl)) (hw _ (List.mem_of_getElem? (i := 116) rfl)) (hw _ (List.mem_of_getElem? (i := 40) rfl)) (hw _ (List.mem_of_getElem? (i := 117) rfl)) (by decide) d7_23 (rm26_3 l Z a0 hw a1 ar_a1 h1 n0 Zs A_a1 E_a1 (S__assertionsDisabled.ext (own_ext0 K)) (S_HI_BYTE_SHIFT.ext (own_ext0 K)) (S_LO_BYTE_SHIFT.ext (own_ext0 K))) eT pd_20 rfl (by rw [hml]; rfl) (by decide) 0 rfl (by decide) (by decide) (by decide) 26 rfl ?_
  intro T23 L9 v9 X hQ
  obtain ⟨h23, eT⟩ : ∃ z, T23.heap = z := ⟨_, rfl⟩
  rw [eT] at hQ
  have lt_a1 := A_a1.lt
  have lt_b1 := A_b1.lt
  obtain ⟨b23b1b4, rfl, N9, Kc, hs_b23b1b4, A_b23b1b4, E_b23b1b4⟩ := hQ
  have g_b23b1b4 : n0 ≤ b23b1b4 := Nat.le_trans Zs hs_b23b1b4
  have sz_b23b1b4 : h0.size ≤ b23b1b4 := Nat.le_trans K.1 hs_b23b1b4
  have ne_a1_b23b1b4 : a1 ≠ b23b1b4 := Nat.ne_of_lt (Nat.lt_of_lt_of_le lt_a1 hs_b23b1b4)
  have ne_b1_b23b1b4 : b1 ≠ b23b1b4 := Nat.ne_of_lt (Nat.lt_of_lt_of_le lt_b1 hs_b23b1b4)
  have A_a1 := A_a1.keep Kc nin0
  have E_a1 := E_a1.keep Kc
  have A_b1 := A_b1.keep Kc nin0
  have E_b1 := E_b1.keep Kc
  have K := K.trans Kc all0
  have Zs := Nat.le_trans Zs Kc.1
  have N := Fr.app N N9
  show Go p e below _ T23 (mkF m 26 #[.val (.ref a1), .val (.int (0 : Int32)), .val (.int (3 : Int32)), .val (.ref b1), .val (.int (0 : Int32)), .unset] [(.ref b23b1b4)])
  refine own_astore X hx hby d7_26 rfl (l' := #[.val (.ref a1), .val (.int (0 : Int32)), .val (.int (3 : Int32)), .val (.ref b1), .val (.int (0 : Int32)), .val (.ref b23b1b4)]) rfl 28 rfl ?_
  refine own_aload X hx hby (.ref b23b1b4) d7_28 rfl rfl 30 rfl ?_
  refine own_iload X hx hby (0 : Int32) d7_30 rfl 32 rfl ?_
  refine own_callS X hx hby hZ (st := []) [(.ref b23b1b4), (.int (0 : Int32))] rfl hown (hw _ (List.mem_of_getElem? (i := 131) rfl)) (hw _ (List.mem_of_getElem? (i := 132) rfl)) (hw _ (List.mem_of_getElem? (i := 40) rfl)) (hw _ (List.mem_of_getElem? (i := 133) rfl)) (by decide) d7_32 (rm30_0 l Z a0 hw b23b1b4 (updI (updI (updI (updI (updI (updI (fun _ => (0 : Int32)) 0 (nar .byte (((ar_a1 0) >>> ((0 : Int32) &&& 31)).toInt8.toInt32))) 1 (nar .byte (((ar_a1 0) >>> ((8 : Int32) &&& 31)).toInt8.toInt32))) 2 (nar .byte (((ar_a1 1) >>> ((0 : Int32) &&& 31)).toInt8.toInt32))) 3 (nar .byte (((ar_a1 1) >>> ((8 : Int32) &&& 31)).toInt8.toInt32))) 4 (nar .byte (((ar_a1 2) >>> ((0 : Int32) &&& 31)).toInt8.toInt32))) 5 (nar .byte (((ar_a1 2) >>> ((8 : Int32) &&& 31)).toInt8.toInt32))) 6 h23 n0 Zs (by decide) (by decide) A_b23b1b4 (S__assertionsDisabled.ext (own_ext0 K)) (S_HI_BYTE_SHIFT.ext (own_ext0 K)) (S_LO_BYTE_SHIFT.ext (own_ext0 K))) eT pd_16 rfl (by rw [hml]; rfl) (by decide) 0 rfl (by decide) (by decide) (by decide) 35 rfl ?_
  intro T32 L9 v9 X hQ
  obtain ⟨rfl, N9, eT⟩ := hQ
  have N := Fr.app N N9
  show Go p e below _ T32 (mkF m 35 #[.val (.ref a1), .val (.int (0 : Int32)), .val (.int (3 : Int32)), .val (.ref b1), .val (.int (0 : Int32)), .val (.ref b23b1b4)] [(.int (nar .char ((((((updI (updI (updI (updI (updI (updI (fun _ => (0 : Int32)) 0 (nar .byte (((ar_a1 0) >>> ((0 : Int32) &&& 31)).toInt8.toInt32))) 1 (nar .byte (((ar_a1 0) >>> ((8 : Int32) &&& 31)).toInt8.toInt32))) 2 (nar .byte (((ar_a1 1) >>> ((0 : Int32) &&& 31)).toInt8.toInt32))) 3 (nar .byte (((ar_a1 1) >>> ((8 : Int32) &&& 31)).toInt8.toInt32))) 4 (nar .byte (((ar_a1 2) >>> ((0 : Int32) &&& 31)).toInt8.toInt32))) 5 (nar .byte (((ar_a1 2) >>> ((8 : Int32) &&& 31)).toInt8.toInt32))) 0) &&& (255 : Int32)) <<< ((0 : Int32) &&& 31)) ||| ((((updI (updI (updI (updI (updI (updI (fun _ => (0 : Int32)) 0 (nar .byte (((ar_a1 0) >>> ((0 : Int32) &&& 31)).toInt8.toInt32))) 1 (nar .byte (((ar_a1 0) >>> ((8 : Int32) &&& 31)).toInt8.toInt32))) 2 (nar .byte (((ar_a1 1) >>> ((0 : Int32) &&& 31)).toInt8.toInt32))) 3 (nar .byte (((ar_a1 1) >>> ((8 : Int32) &&& 31)).toInt8.toInt32))) 4 (nar .byte (((ar_a1 2) >>> ((0 : Int32) &&& 31)).toInt8.toInt32))) 5 (nar .byte (((ar_a1 2) >>> ((8 : Int32) &&& 31)).toInt8.toInt32))) 1) &&& (255 : Int32)) <<< ((8 : Int32) &&& 31))).toUInt32.toUInt16.toUInt32.toInt32)))])
  refine own_sipush X hx hby (255 : Int32) d7_35 rfl 38 rfl ?_
  have c38 : (255 : Int32) < (nar .char ((((((updI (updI (updI (updI (updI (updI (fun _ => (0 : Int32)) 0 (nar .byte (((ar_a1 0) >>> ((0 : Int32) &&& 31)).toInt8.toInt32))) 1 (nar .byte (((ar_a1 0) >>> ((8 : Int32) &&& 31)).toInt8.toInt32))) 2 (nar .byte (((ar_a1 1) >>> ((0 : Int32) &&& 31)).toInt8.toInt32))) 3 (nar .byte (((ar_a1 1) >>> ((8 : Int32) &&& 31)).toInt8.toInt32))) 4 (nar .byte (((ar_a1 2) >>> ((0 : Int32) &&& 31)).toInt8.toInt32))) 5 (nar .byte (((ar_a1 2) >>> ((8 : Int32) &&& 31)).toInt8.toInt32))) 0) &&& (255 : Int32)) <<< ((0 : Int32) &&& 31)) ||| ((((updI (updI (updI (updI (updI (updI (fun _ => (0 : Int32)) 0 (nar .byte (((ar_a1 0) >>> ((0 : Int32) &&& 31)).toInt8.toInt32))) 1 (nar .byte (((ar_a1 0) >>> ((8 : Int32) &&& 31)).toInt8.toInt32))) 2 (nar .byte (((ar_a1 1) >>> ((0 : Int32) &&& 31)).toInt8.toInt32))) 3 (nar .byte (((ar_a1 1) >>> ((8 : Int32) &&& 31)).toInt8.toInt32))) 4 (nar .byte (((ar_a1 2) >>> ((0 : Int32) &&& 31)).toInt8.toInt32))) 5 (nar .byte (((ar_a1 2) >>> ((8 : Int32) &&& 31)).toInt8.toInt32))) 1) &&& (255 : Int32)) <<< ((8 : Int32) &&& 31))).toUInt32.toUInt16.toUInt32.toInt32)) := (show (255 : Int32) < own_utf ((updI (updI (updI (updI (updI (updI (fun _ => (0 : Int32)) 0 (nar .byte (((ar_a1 0) >>> ((0 : Int32) &&& 31)).toInt8.toInt32))) 1 (nar .byte (((ar_a1 0) >>> ((8 : Int32) &&& 31)).toInt8.toInt32))) 2 (nar .byte (((ar_a1 1) >>> ((0 : Int32) &&& 31)).toInt8.toInt32))) 3 (nar .byte (((ar_a1 1) >>> ((8 : Int32) &&& 31)).toInt8.toInt32))) 4 (nar .byte (((ar_a1 2) >>> ((0 : Int32) &&& 31)).toInt8.toInt32))) 5 (nar .byte (((ar_a1 2) >>> ((8 : Int32) &&& 31)).toInt8.toInt32))) 0) ((updI (updI (updI (updI (updI (updI (fun _ => (0 : Int32)) 0 (nar .byte (((ar_a1 0) >>> ((0 : Int32) &&& 31)).toInt8.toInt32))) 1 (nar .byte (((ar_a1 0) >>> ((8 : Int32) &&& 31)).toInt8.toInt32))) 2 (nar .byte (((ar_a1 1) >>> ((0 : Int32) &&& 31)).toInt8.toInt32))) 3 (nar .byte (((ar_a1 1) >>> ((8 : Int32) &&& 31)).toInt8.toInt32))) 4 (nar .byte (((ar_a1 2) >>> ((0 : Int32) &&& 31)).toInt8.toInt32))) 5 (nar .byte (((ar_a1 2) >>> ((8 : Int32) &&& 31)).toInt8.toInt32))) 1) from own_gt (g := (updI (updI (updI (updI (updI (updI (fun _ => (0 : Int32)) 0 (nar .byte (((ar_a1 0) >>> ((0 : Int32) &&& 31)).toInt8.toInt32))) 1 (nar .byte (((ar_a1 0) >>> ((8 : Int32) &&& 31)).toInt8.toInt32))) 2 (nar .byte (((ar_a1 1) >>> ((0 : Int32) &&& 31)).toInt8.toInt32))) 3 (nar .byte (((ar_a1 1) >>> ((8 : Int32) &&& 31)).toInt8.toInt32))) 4 (nar .byte (((ar_a1 2) >>> ((0 : Int32) &&& 31)).toInt8.toInt32))) 5 (nar .byte (((ar_a1 2) >>> ((8 : Int32) &&& 31)).toInt8.toInt32)))) (i0 := 0) (i1 := 1) (c := (ar_a1 0)) rfl rfl (hrg 0) hk)
  refine own_icmp_gt X hx hby d7_38 54 41 (by decide) rfl (fun _ => ?_) (fun q => absurd c38 q)
  refine own_aload X hx hby (.ref b23b1b4) d7_54 rfl rfl 56 rfl ?_
  refine own_retA X hx hby hret hlk rfl rfl rfl d7_56 (by decide) (by decide) ?_
  rw [eT]
  exact ⟨b1, b23b1b4, rfl, N, K, sz_b1, sz_b23b1b4, A_b1, E_b1, A_b23b1b4, E_b23b1b4⟩
theorem ef_7_3_1 (a1 : Addr) (m : MethodId) : entryFrame m #[(.ref a1), (.int (0 : Int32)), (.int (3 : Int32))] 6 = mkF m 0 #[.val (.ref a1), .val (.int (0 : Int32)), .val (.int (3 : Int32)), .unset, .unset, .unset] [] := by first | (simp [entryFrame, mkF, argsToLocals, Value.category]; done) | rfl
def Q7_3_1 (Z : State) (a1 : Addr) (ar_a1 : Nat → Int32) (h0 : Heap) (n0 : Nat) (v : Option Value) (h : Heap) (L : List Loc) : Prop := ∃ (b1 : Addr) (b23b1b4 : Addr), v = some (.ref b23b1b4) ∧ Fr n0 L ∧ Keep h0 h [] ∧ h0.size ≤ b1 ∧ h0.size ≤ b23b1b4 ∧ Afi Z h b1 .byte 3 (updI (fun _ => (0 : Int32)) 0 (nar .byte ((ar_a1 0).toInt8.toInt32))) ∧ Exa Z h b1 "[B" ∧ Afi Z h b23b1b4 .byte 6 (updI (updI (updI (updI (updI (updI (fun _ => (0 : Int32)) 0 (nar .byte (((ar_a1 0) >>> ((0 : Int32) &&& 31)).toInt8.toInt32))) 1 (nar .byte (((ar_a1 0) >>> ((8 : Int32) &&& 31)).toInt8.toInt32))) 2 (nar .byte (((ar_a1 1) >>> ((0 : Int32) &&& 31)).toInt8.toInt32))) 3 (nar .byte (((ar_a1 1) >>> ((8 : Int32) &&& 31)).toInt8.toInt32))) 4 (nar .byte (((ar_a1 2) >>> ((0 : Int32) &&& 31)).toInt8.toInt32))) 5 (nar .byte (((ar_a1 2) >>> ((8 : Int32) &&& 31)).toInt8.toInt32))) ∧ Exa Z h b23b1b4 "[B"
set_option maxRecDepth 65536 in
set_option maxHeartbeats 40000000 in
theorem rm7_3_1 (l : Launch) (Z : State) (a0 : Array Value) (hw : ∀ d ∈ tables_1, d.before a0 Z = true) (a1 : Addr) (ar_a1 : Nat → Int32) (h0 : Heap) (n0 : Nat) (Zs : n0 ≤ h0.size) (hc0 : ¬ (255 : Int32) < (ar_a1 0)) (hk : (255 : Int32) < (ar_a1 1)) (hrg : ∀ i, 0 ≤ (ar_a1 i).toInt ∧ (ar_a1 i).toInt < 65536) (A_a1 : Afi Z h0 a1 .char 3 ar_a1) (E_a1 : Exa Z h0 a1 "[C") (S__assertionsDisabled : Sta Z h0 "java/lang/StringUTF16" "$assertionsDisabled" "Z" (.int (1 : Int32))) (S_HI_BYTE_SHIFT : Sta Z h0 "java/lang/StringUTF16" "HI_BYTE_SHIFT" "I" (.int (0 : Int32))) (S_LO_BYTE_SHIFT : Sta Z h0 "java/lang/StringUTF16" "LO_BYTE_SHIFT" "I" (.int (8 : Int32))) (g_a1 : n0 ≤ a1) :
    Met1 l Z (⟨"java/lang/StringUTF16", "compress", "([CII)[B"⟩ : MethodName) jdk_52_method_16_code 6 (some (.array .byte)) ({ frames := 3, cells := 2, slots := 9, locals := 40 } : Room) #[(.ref a1), (.int (0 : Int32)), (.int (3 : Int32))] h0 (Q7_3_1 Z a1 ar_a1 h0 n0) := by
  refine own_met_of (plainFor_of_name pn_33) (ef_7_3_1 a1) ?_
  intro p e s m below meth c s₁ X hx hby hml hZ hown hnm hret hlk eT
  have hown : s.vm.findClass "java/lang/StringUTF16" = some m.cls := hown
  have N := Fr.nil n0
  have K := Keep.refl h0 []
  refine own_iloadN X hx hby (3 : Int32) d7_0 rfl 1 rfl ?_
  refine own_newarray X hx hby hZ (hw _ (List.mem_of_getElem? (i := 21) rfl)) eT d7_1 (z := (3 : Int32)) (by decide) (n := 3) rfl (cap := 3) (by decide) (by decide) (by decide) (by decide) (ad := "[B") rfl 3 rfl ?_
  intro T1 h1 b1 gb1 X eT Ex A A2
  have g_b1 : n0 ≤ b1 := by rw [gb1]; exact Zs
  have sz_b1 : h0.size ≤ b1 := by rw [gb1]; exact K.1
  have ne_a1_b1 : a1 ≠ b1 := Nat.ne_of_lt (by rw [gb1]; exact A_a1.lt)
  have A_a1 := A_a1.ext Ex
  have E_a1 := E_a1.ext Ex
  have A_b1 : Afi Z h1 b1 .byte 3 (fun _ => (0 : Int32)) := A
  have E_b1 := A2
  have K := K.ext Ex
  have Zs := Nat.le_trans Zs Ex.1
  refine own_astoreN X hx hby d7_3 rfl (l' := #[.val (.ref a1), .val (.int (0 : Int32)), .val (.int (3 : Int32)), .val (.ref b1), .unset, .unset]) rfl 4 rfl ?_
  refine own_aloadN X hx hby (.ref a1) d7_4 rfl rfl 5 rfl ?_
  refine own_iloadN X hx hby (0 : Int32) d7_5 rfl 6 rfl ?_
  refine own_aloadN X hx hby (.ref b1) d7_6 rfl rfl 7 rfl ?_
  refine own_iconst X hx hby (0 : Int32) d7_7 rfl 8 rfl ?_
  refine own_iloadN X hx hby (3 : Int32) d7_8 rfl 9 rfl ?_
  refine own_callS X hx hby hZ (st := []) [(.ref a1), (.int (0 : Int32)), (.ref b1), (.int (0 : Int32)), (.int (3 : Int32))] rfl hown (hw _ (List.mem_of_getElem? (i := 42) rfl)) (hw _ (List.mem_of_getElem? (i := 43) rfl)) (hw _ (List.mem_of_getElem? (i := 40) rfl)) (hw _ (List.mem_of_getElem? (i := 44) rfl)) (by decide) d7_9 (rm8_3_1 l Z a0 hw a1 b1 ar_a1 (fun _ => (0 : Int32)) h1 n0 Zs hc0 hk A_a1 E_a1 A_b1 E_b1 g_a1 g_b1) eT pd_22 rfl (by rw [hml]; rfl) (by decide) 0 rfl (by decide) (by decide) (by decide) 12 rfl ?_
  intro T9 L9 v9 X hQ
  obtain ⟨h9, eT⟩ : ∃ z, T9.heap = z := ⟨_, rfl⟩
  rw [eT] at hQ
  obtain ⟨rfl, N9, Kc, A_b1, E_b1⟩ := hQ
  have A_a1 := A_a1.keep Kc (ninS ne_a1_b1 nin0)
  have E_a1 := E_a1.keep Kc
  have K := K.trans Kc (allS (Or.inr sz_b1) all0)
  have Zs := Nat.le_trans Zs Kc.1
  have N := Fr.app N N9
  show Go p e below _ T9 (mkF m 12 #[.val (.ref a1), .val (.int (0 : Int32)), .val (.int (3 : Int32)), .val (.ref b1), .unset, .unset] [(.int (1 : Int32))])
  refine own_istore X hx hby d7_12 rfl (l' := #[.val (.ref a1), .val (.int (0 : Int32)), .val (.int (3 : Int32)), .val (.ref b1), .val (.int (1 : Int32)), .unset]) rfl 14 rfl ?_
  refine own_iload X hx hby (1 : Int32) d7_14 rfl 16 rfl ?_
  refine own_iloadN X hx hby (3 : Int32) d7_16 rfl 17 rfl ?_
  have c17 : ¬ (1 : Int32) = (3 : Int32) := by decide
  refine own_icmp_eq X hx hby d7_17 57 20 (by decide) rfl (fun q => absurd q c17) (fun _ => ?_)
  refine own_aloadN X hx hby (.ref a1) d7_20 rfl rfl 21 rfl ?_
  refine own_iloadN X hx hby (0 : Int32) d7_21 rfl 22 rfl ?_
  refine own_iloadN X hx hby (3 : Int32) d7_22 rfl 23 rfl ?_
  refine own_callS X hx hby hZ (st := []) [(.ref a1), (.int (0 : Int32)), (.int (3 : Int32))] rfl hown (hw _ (List.mem_of_getElem? (i := 115) rfl)) (hw _ (List.mem_of_getElem? (i := 116) rfl)) (hw _ (List.mem_of_getElem? (i := 40) rfl)) (hw _ (List.mem_of_getElem? (i := 117) rfl)) (by decide) d7_23 (rm26_3 l Z a0 hw a1 ar_a1 h9 n0 Zs A_a1 E_a1 (S__assertionsDisabled.ext (own_ext0 K)) (S_HI_BYTE_SHIFT.ext (own_ext0 K)) (S_LO_BYTE_SHIFT.ext (own_ext0 K))) eT pd_20 rfl (by rw [hml]; rfl) (by decide) 0 rfl (by decide) (by decide) (by decide) 26 rfl ?_
  intro T23 L9 v9 X hQ
  obtain ⟨h23, eT⟩ : ∃ z, T23.heap = z := ⟨_, rfl⟩
  rw [eT] at hQ
  have lt_a1 := A_a1.lt
  have lt_b1 := A_b1.lt
  obtain ⟨b23b1b4, rfl, N9, Kc, hs_b23b1b4, A_b23b1b4, E_b23b1b4⟩ := hQ
  have g_b23b1b4 : n0 ≤ b23b1b4 := Nat.le_trans Zs hs_b23b1b4
  have sz_b23b1b4 : h0.size ≤ b23b1b4 := Nat.le_trans K.1 hs_b23b1b4
  have ne_a1_b23b1b4 : a1 ≠ b23b1b4 := Nat.ne_of_lt (Nat.lt_of_lt_of_le lt_a1 hs_b23b1b4)
  have ne_b1_b23b1b4 : b1 ≠ b23b1b4 := Nat.ne_of_lt (Nat.lt_of_lt_of_le lt_b1 hs_b23b1b4)
  have A_a1 := A_a1.keep Kc nin0
  have E_a1 := E_a1.keep Kc
  have A_b1 := A_b1.keep Kc nin0
  have E_b1 := E_b1.keep Kc
  have K := K.trans Kc all0
  have Zs := Nat.le_trans Zs Kc.1
  have N := Fr.app N N9
  show Go p e below _ T23 (mkF m 26 #[.val (.ref a1), .val (.int (0 : Int32)), .val (.int (3 : Int32)), .val (.ref b1), .val (.int (1 : Int32)), .unset] [(.ref b23b1b4)])
  refine own_astore X hx hby d7_26 rfl (l' := #[.val (.ref a1), .val (.int (0 : Int32)), .val (.int (3 : Int32)), .val (.ref b1), .val (.int (1 : Int32)), .val (.ref b23b1b4)]) rfl 28 rfl ?_
  refine own_aload X hx hby (.ref b23b1b4) d7_28 rfl rfl 30 rfl ?_
  refine own_iload X hx hby (1 : Int32) d7_30 rfl 32 rfl ?_
  refine own_callS X hx hby hZ (st := []) [(.ref b23b1b4), (.int (1 : Int32))] rfl hown (hw _ (List.mem_of_getElem? (i := 131) rfl)) (hw _ (List.mem_of_getElem? (i := 132) rfl)) (hw _ (List.mem_of_getElem? (i := 40) rfl)) (hw _ (List.mem_of_getElem? (i := 133) rfl)) (by decide) d7_32 (rm30_1 l Z a0 hw b23b1b4 (updI (updI (updI (updI (updI (updI (fun _ => (0 : Int32)) 0 (nar .byte (((ar_a1 0) >>> ((0 : Int32) &&& 31)).toInt8.toInt32))) 1 (nar .byte (((ar_a1 0) >>> ((8 : Int32) &&& 31)).toInt8.toInt32))) 2 (nar .byte (((ar_a1 1) >>> ((0 : Int32) &&& 31)).toInt8.toInt32))) 3 (nar .byte (((ar_a1 1) >>> ((8 : Int32) &&& 31)).toInt8.toInt32))) 4 (nar .byte (((ar_a1 2) >>> ((0 : Int32) &&& 31)).toInt8.toInt32))) 5 (nar .byte (((ar_a1 2) >>> ((8 : Int32) &&& 31)).toInt8.toInt32))) 6 h23 n0 Zs (by decide) (by decide) A_b23b1b4 (S__assertionsDisabled.ext (own_ext0 K)) (S_HI_BYTE_SHIFT.ext (own_ext0 K)) (S_LO_BYTE_SHIFT.ext (own_ext0 K))) eT pd_16 rfl (by rw [hml]; rfl) (by decide) 0 rfl (by decide) (by decide) (by decide) 35 rfl ?_
  intro T32 L9 v9 X hQ
  obtain ⟨rfl, N9, eT⟩ := hQ
  have N := Fr.app N N9
  show Go p e below _ T32 (mkF m 35 #[.val (.ref a1), .val (.int (0 : Int32)), .val (.int (3 : Int32)), .val (.ref b1), .val (.int (1 : Int32)), .val (.ref b23b1b4)] [(.int (nar .char ((((((updI (updI (updI (updI (updI (updI (fun _ => (0 : Int32)) 0 (nar .byte (((ar_a1 0) >>> ((0 : Int32) &&& 31)).toInt8.toInt32))) 1 (nar .byte (((ar_a1 0) >>> ((8 : Int32) &&& 31)).toInt8.toInt32))) 2 (nar .byte (((ar_a1 1) >>> ((0 : Int32) &&& 31)).toInt8.toInt32))) 3 (nar .byte (((ar_a1 1) >>> ((8 : Int32) &&& 31)).toInt8.toInt32))) 4 (nar .byte (((ar_a1 2) >>> ((0 : Int32) &&& 31)).toInt8.toInt32))) 5 (nar .byte (((ar_a1 2) >>> ((8 : Int32) &&& 31)).toInt8.toInt32))) 2) &&& (255 : Int32)) <<< ((0 : Int32) &&& 31)) ||| ((((updI (updI (updI (updI (updI (updI (fun _ => (0 : Int32)) 0 (nar .byte (((ar_a1 0) >>> ((0 : Int32) &&& 31)).toInt8.toInt32))) 1 (nar .byte (((ar_a1 0) >>> ((8 : Int32) &&& 31)).toInt8.toInt32))) 2 (nar .byte (((ar_a1 1) >>> ((0 : Int32) &&& 31)).toInt8.toInt32))) 3 (nar .byte (((ar_a1 1) >>> ((8 : Int32) &&& 31)).toInt8.toInt32))) 4 (nar .byte (((ar_a1 2) >>> ((0 : Int32) &&& 31)).toInt8.toInt32))) 5 (nar .byte (((ar_a1 2) >>> ((8 : Int32) &&& 31)).toInt8.toInt32))) 3) &&& (255 : Int32)) <<< ((8 : Int32) &&& 31))).toUInt32.toUInt16.toUInt32.toInt32)))])
  refine own_sipush X hx hby (255 : Int32) d7_35 rfl 38 rfl ?_
  have c38 : (255 : Int32) < (nar .char ((((((updI (updI (updI (updI (updI (updI (fun _ => (0 : Int32)) 0 (nar .byte (((ar_a1 0) >>> ((0 : Int32) &&& 31)).toInt8.toInt32))) 1 (nar .byte (((ar_a1 0) >>> ((8 : Int32) &&& 31)).toInt8.toInt32))) 2 (nar .byte (((ar_a1 1) >>> ((0 : Int32) &&& 31)).toInt8.toInt32))) 3 (nar .byte (((ar_a1 1) >>> ((8 : Int32) &&& 31)).toInt8.toInt32))) 4 (nar .byte (((ar_a1 2) >>> ((0 : Int32) &&& 31)).toInt8.toInt32))) 5 (nar .byte (((ar_a1 2) >>> ((8 : Int32) &&& 31)).toInt8.toInt32))) 2) &&& (255 : Int32)) <<< ((0 : Int32) &&& 31)) ||| ((((updI (updI (updI (updI (updI (updI (fun _ => (0 : Int32)) 0 (nar .byte (((ar_a1 0) >>> ((0 : Int32) &&& 31)).toInt8.toInt32))) 1 (nar .byte (((ar_a1 0) >>> ((8 : Int32) &&& 31)).toInt8.toInt32))) 2 (nar .byte (((ar_a1 1) >>> ((0 : Int32) &&& 31)).toInt8.toInt32))) 3 (nar .byte (((ar_a1 1) >>> ((8 : Int32) &&& 31)).toInt8.toInt32))) 4 (nar .byte (((ar_a1 2) >>> ((0 : Int32) &&& 31)).toInt8.toInt32))) 5 (nar .byte (((ar_a1 2) >>> ((8 : Int32) &&& 31)).toInt8.toInt32))) 3) &&& (255 : Int32)) <<< ((8 : Int32) &&& 31))).toUInt32.toUInt16.toUInt32.toInt32)) := (show (255 : Int32) < own_utf ((updI (updI (updI (updI (updI (updI (fun _ => (0 : Int32)) 0 (nar .byte (((ar_a1 0) >>> ((0 : Int32) &&& 31)).toInt8.toInt32))) 1 (nar .byte (((ar_a1 0) >>> ((8 : Int32) &&& 31)).toInt8.toInt32))) 2 (nar .byte (((ar_a1 1) >>> ((0 : Int32) &&& 31)).toInt8.toInt32))) 3 (nar .byte (((ar_a1 1) >>> ((8 : Int32) &&& 31)).toInt8.toInt32))) 4 (nar .byte (((ar_a1 2) >>> ((0 : Int32) &&& 31)).toInt8.toInt32))) 5 (nar .byte (((ar_a1 2) >>> ((8 : Int32) &&& 31)).toInt8.toInt32))) 2) ((updI (updI (updI (updI (updI (updI (fun _ => (0 : Int32)) 0 (nar .byte (((ar_a1 0) >>> ((0 : Int32) &&& 31)).toInt8.toInt32))) 1 (nar .byte (((ar_a1 0) >>> ((8 : Int32) &&& 31)).toInt8.toInt32))) 2 (nar .byte (((ar_a1 1) >>> ((0 : Int32) &&& 31)).toInt8.toInt32))) 3 (nar .byte (((ar_a1 1) >>> ((8 : Int32) &&& 31)).toInt8.toInt32))) 4 (nar .byte (((ar_a1 2) >>> ((0 : Int32) &&& 31)).toInt8.toInt32))) 5 (nar .byte (((ar_a1 2) >>> ((8 : Int32) &&& 31)).toInt8.toInt32))) 3) from own_gt (g := (updI (updI (updI (updI (updI (updI (fun _ => (0 : Int32)) 0 (nar .byte (((ar_a1 0) >>> ((0 : Int32) &&& 31)).toInt8.toInt32))) 1 (nar .byte (((ar_a1 0) >>> ((8 : Int32) &&& 31)).toInt8.toInt32))) 2 (nar .byte (((ar_a1 1) >>> ((0 : Int32) &&& 31)).toInt8.toInt32))) 3 (nar .byte (((ar_a1 1) >>> ((8 : Int32) &&& 31)).toInt8.toInt32))) 4 (nar .byte (((ar_a1 2) >>> ((0 : Int32) &&& 31)).toInt8.toInt32))) 5 (nar .byte (((ar_a1 2) >>> ((8 : Int32) &&& 31)).toInt8.toInt32)))) (i0 := 2) (i1 := 3) (c := (ar_a1 1)) rfl rfl (hrg 1) hk)
  refine own_icmp_gt X hx hby d7_38 54 41 (by decide) rfl (fun _ => ?_) (fun q => absurd c38 q)
  refine own_aload X hx hby (.ref b23b1b4) d7_54 rfl rfl 56 rfl ?_
  refine own_retA X hx hby hret hlk rfl rfl rfl d7_56 (by decide) (by decide) ?_
  rw [eT]
  exact ⟨b1, b23b1b4, rfl, N, K, sz_b1, sz_b23b1b4, A_b1, E_b1, A_b23b1b4, E_b23b1b4⟩
theorem ef_7_3_2 (a1 : Addr) (m : MethodId) : entryFrame m #[(.ref a1), (.int (0 : Int32)), (.int (3 : Int32))] 6 = mkF m 0 #[.val (.ref a1), .val (.int (0 : Int32)), .val (.int (3 : Int32)), .unset, .unset, .unset] [] := by first | (simp [entryFrame, mkF, argsToLocals, Value.category]; done) | rfl
def Q7_3_2 (Z : State) (a1 : Addr) (ar_a1 : Nat → Int32) (h0 : Heap) (n0 : Nat) (v : Option Value) (h : Heap) (L : List Loc) : Prop := ∃ (b1 : Addr) (b23b1b4 : Addr), v = some (.ref b23b1b4) ∧ Fr n0 L ∧ Keep h0 h [] ∧ h0.size ≤ b1 ∧ h0.size ≤ b23b1b4 ∧ Afi Z h b1 .byte 3 (updI (updI (fun _ => (0 : Int32)) 0 (nar .byte ((ar_a1 0).toInt8.toInt32))) 1 (nar .byte ((ar_a1 1).toInt8.toInt32))) ∧ Exa Z h b1 "[B" ∧ Afi Z h b23b1b4 .byte 6 (updI (updI (updI (updI (updI (updI (fun _ => (0 : Int32)) 0 (nar .byte (((ar_a1 0) >>> ((0 : Int32) &&& 31)).toInt8.toInt32))) 1 (nar .byte (((ar_a1 0) >>> ((8 : Int32) &&& 31)).toInt8.toInt32))) 2 (nar .byte (((ar_a1 1) >>> ((0 : Int32) &&& 31)).toInt8.toInt32))) 3 (nar .byte (((ar_a1 1) >>> ((8 : Int32) &&& 31)).toInt8.toInt32))) 4 (nar .byte (((ar_a1 2) >>> ((0 : Int32) &&& 31)).toInt8.toInt32))) 5 (nar .byte (((ar_a1 2) >>> ((8 : Int32) &&& 31)).toInt8.toInt32))) ∧ Exa Z h b23b1b4 "[B"
set_option maxRecDepth 65536 in
set_option maxHeartbeats 40000000 in
theorem rm7_3_2 (l : Launch) (Z : State) (a0 : Array Value) (hw : ∀ d ∈ tables_1, d.before a0 Z = true) (a1 : Addr) (ar_a1 : Nat → Int32) (h0 : Heap) (n0 : Nat) (Zs : n0 ≤ h0.size) (hc0 : ¬ (255 : Int32) < (ar_a1 0)) (hc1 : ¬ (255 : Int32) < (ar_a1 1)) (hk : (255 : Int32) < (ar_a1 2)) (hrg : ∀ i, 0 ≤ (ar_a1 i).toInt ∧ (ar_a1 i).toInt < 65536) (A_a1 : Afi Z h0 a1 .char 3 ar_a1) (E_a1 : Exa Z h0 a1 "[C") (S__assertionsDisabled : Sta Z h0 "java/lang/StringUTF16" "$assertionsDisabled" "Z" (.int (1 : Int32))) (S_HI_BYTE_SHIFT : Sta Z h0 "java/lang/StringUTF16" "HI_BYTE_SHIFT" "I" (.int (0 : Int32))) (S_LO_BYTE_SHIFT : Sta Z h0 "java/lang/StringUTF16" "LO_BYTE_SHIFT" "I" (.int (8 : Int32))) (g_a1 : n0 ≤ a1) :
    Met1 l Z (⟨"java/lang/StringUTF16", "compress", "([CII)[B"⟩ : MethodName) jdk_52_method_16_code 6 (some (.array .byte)) ({ frames := 3, cells := 2, slots := 9, locals := 40 } : Room) #[(.ref a1), (.int (0 : Int32)), (.int (3 : Int32))] h0 (Q7_3_2 Z a1 ar_a1 h0 n0) := by
  refine own_met_of (plainFor_of_name pn_33) (ef_7_3_2 a1) ?_
  intro p e s m below meth c s₁ X hx hby hml hZ hown hnm hret hlk eT
  have hown : s.vm.findClass "java/lang/StringUTF16" = some m.cls := hown
  have N := Fr.nil n0
  have K := Keep.refl h0 []
  refine own_iloadN X hx hby (3 : Int32) d7_0 rfl 1 rfl ?_
  refine own_newarray X hx hby hZ (hw _ (List.mem_of_getElem? (i := 21) rfl)) eT d7_1 (z := (3 : Int32)) (by decide) (n := 3) rfl (cap := 3) (by decide) (by decide) (by decide) (by decide) (ad := "[B") rfl 3 rfl ?_
  intro T1 h1 b1 gb1 X eT Ex A A2
  have g_b1 : n0 ≤ b1 := by rw [gb1]; exact Zs
  have sz_b1 : h0.size ≤ b1 := by rw [gb1]; exact K.1
  have ne_a1_b1 : a1 ≠ b1 := Nat.ne_of_lt (by rw [gb1]; exact A_a1.lt)
  have A_a1 := A_a1.ext Ex
  have E_a1 := E_a1.ext Ex
  have A_b1 : Afi Z h1 b1 .byte 3 (fun _ => (0 : Int32)) := A
  have E_b1 := A2
  have K := K.ext Ex
  have Zs := Nat.le_trans Zs Ex.1
  refine own_astoreN X hx hby d7_3 rfl (l' := #[.val (.ref a1), .val (.int (0 : Int32)), .val (.int (3 : Int32)), .val (.ref b1), .unset, .unset]) rfl 4 rfl ?_
  refine own_aloadN X hx hby (.ref a1) d7_4 rfl rfl 5 rfl ?_
  refine own_iloadN X hx hby (0 : Int32) d7_5 rfl 6 rfl ?_
  refine own_aloadN X hx hby (.ref b1) d7_6 rfl rfl 7 rfl ?_
  refine own_iconst X hx hby (0 : Int32) d7_7 rfl 8 rfl ?_
  refine own_iloadN X hx hby (3 : Int32) d7_8 rfl 9 rfl ?_
  refine own_callS X hx hby hZ (st := []) [(.ref a1), (.int (0 : Int32)), (.ref b1), (.int (0 : Int32)), (.int (3 : Int32))] rfl hown (hw _ (List.mem_of_getElem? (i := 42) rfl)) (hw _ (List.mem_of_getElem? (i := 43) rfl)) (hw _ (List.mem_of_getElem? (i := 40) rfl)) (hw _ (List.mem_of_getElem? (i := 44) rfl)) (by decide) d7_9 (rm8_3_2 l Z a0 hw a1 b1 ar_a1 (fun _ => (0 : Int32)) h1 n0 Zs hc0 hc1 hk A_a1 E_a1 A_b1 E_b1 g_a1 g_b1) eT pd_22 rfl (by rw [hml]; rfl) (by decide) 0 rfl (by decide) (by decide) (by decide) 12 rfl ?_
  intro T9 L9 v9 X hQ
  obtain ⟨h9, eT⟩ : ∃ z, T9.heap = z := ⟨_, rfl⟩
  rw [eT] at hQ
  obtain ⟨rfl, N9, Kc, A_b1, E_b1⟩ := hQ
  have A_a1 := A_a1.keep Kc (ninS ne_a1_b1 nin0)
  have E_a1 := E_a1.keep Kc
  have K := K.trans Kc (allS (Or.inr sz_b1) all0)
  have Zs := Nat.le_trans Zs Kc.1
  have N := Fr.app N N9
  show Go p e below _ T9 (mkF m 12 #[.val (.ref a1), .val (.int (0 : Int32)), .val (.int (3 : Int32)), .val (.ref b1), .unset, .unset] [(.int (2 : Int32))])
  refine own_istore X hx hby d7_12 rfl (l' := #[.val (.ref a1), .val (.int (0 : Int32)), .val (.int (3 : Int32)), .val (.ref b1), .val (.int (2 : Int32)), .unset]) rfl 14 rfl ?_
  refine own_iload X hx hby (2 : Int32) d7_14 rfl 16 rfl ?_
  refine own_iloadN X hx hby (3 : Int32) d7_16 rfl 17 rfl ?_
  have c17 : ¬ (2 : Int32) = (3 : Int32) := by decide
  refine own_icmp_eq X hx hby d7_17 57 20 (by decide) rfl (fun q => absurd q c17) (fun _ => ?_)
  refine own_aloadN X hx hby (.ref a1) d7_20 rfl rfl 21 rfl ?_
  refine own_iloadN X hx hby (0 : Int32) d7_21 rfl 22 rfl ?_
  refine own_iloadN X hx hby (3 : Int32) d7_22 rfl 23 rfl ?_
  refine own_callS X hx hby hZ (st := []) [(.ref a1), (.int (0 : Int32)), (.int (3 : Int32))] rfl hown (hw _ (List.mem_of_getElem? (i := 115) rfl)) (hw _ (List.mem_of_getElem? (i := 116) rfl)) (hw _ (List.mem_of_getElem? (i := 40) rfl)) (hw _ (List.mem_of_getElem? (i := 117) rfl)) (by decide) d7_23 (rm26_3 l Z a0 hw a1 ar_a1 h9 n0 Zs A_a1 E_a1 (S__assertionsDisabled.ext (own_ext0 K)) (S_HI_BYTE_SHIFT.ext (own_ext0 K)) (S_LO_BYTE_SHIFT.ext (own_ext0 K))) eT pd_20 rfl (by rw [hml]; rfl) (by decide) 0 rfl (by decide) (by decide) (by decide) 26 rfl ?_
  intro T23 L9 v9 X hQ
  obtain ⟨h23, eT⟩ : ∃ z, T23.heap = z := ⟨_, rfl⟩
  rw [eT] at hQ
  have lt_a1 := A_a1.lt
  have lt_b1 := A_b1.lt
  obtain ⟨b23b1b4, rfl, N9, Kc, hs_b23b1b4, A_b23b1b4, E_b23b1b4⟩ := hQ
  have g_b23b1b4 : n0 ≤ b23b1b4 := Nat.le_trans Zs hs_b23b1b4
  have sz_b23b1b4 : h0.size ≤ b23b1b4 := Nat.le_trans K.1 hs_b23b1b4
  have ne_a1_b23b1b4 : a1 ≠ b23b1b4 := Nat.ne_of_lt (Nat.lt_of_lt_of_le lt_a1 hs_b23b1b4)
  have ne_b1_b23b1b4 : b1 ≠ b23b1b4 := Nat.ne_of_lt (Nat.lt_of_lt_of_le lt_b1 hs_b23b1b4)
  have A_a1 := A_a1.keep Kc nin0
  have E_a1 := E_a1.keep Kc
  have A_b1 := A_b1.keep Kc nin0
  have E_b1 := E_b1.keep Kc
  have K := K.trans Kc all0
  have Zs := Nat.le_trans Zs Kc.1
  have N := Fr.app N N9
  show Go p e below _ T23 (mkF m 26 #[.val (.ref a1), .val (.int (0 : Int32)), .val (.int (3 : Int32)), .val (.ref b1), .val (.int (2 : Int32)), .unset] [(.ref b23b1b4)])
  refine own_astore X hx hby d7_26 rfl (l' := #[.val (.ref a1), .val (.int (0 : Int32)), .val (.int (3 : Int32)), .val (.ref b1), .val (.int (2 : Int32)), .val (.ref b23b1b4)]) rfl 28 rfl ?_
  refine own_aload X hx hby (.ref b23b1b4) d7_28 rfl rfl 30 rfl ?_
  refine own_iload X hx hby (2 : Int32) d7_30 rfl 32 rfl ?_
  refine own_callS X hx hby hZ (st := []) [(.ref b23b1b4), (.int (2 : Int32))] rfl hown (hw _ (List.mem_of_getElem? (i := 131) rfl)) (hw _ (List.mem_of_getElem? (i := 132) rfl)) (hw _ (List.mem_of_getElem? (i := 40) rfl)) (hw _ (List.mem_of_getElem? (i := 133) rfl)) (by decide) d7_32 (rm30_2 l Z a0 hw b23b1b4 (updI (updI (updI (updI (updI (updI (fun _ => (0 : Int32)) 0 (nar .byte (((ar_a1 0) >>> ((0 : Int32) &&& 31)).toInt8.toInt32))) 1 (nar .byte (((ar_a1 0) >>> ((8 : Int32) &&& 31)).toInt8.toInt32))) 2 (nar .byte (((ar_a1 1) >>> ((0 : Int32) &&& 31)).toInt8.toInt32))) 3 (nar .byte (((ar_a1 1) >>> ((8 : Int32) &&& 31)).toInt8.toInt32))) 4 (nar .byte (((ar_a1 2) >>> ((0 : Int32) &&& 31)).toInt8.toInt32))) 5 (nar .byte (((ar_a1 2) >>> ((8 : Int32) &&& 31)).toInt8.toInt32))) 6 h23 n0 Zs (by decide) (by decide) A_b23b1b4 (S__assertionsDisabled.ext (own_ext0 K)) (S_HI_BYTE_SHIFT.ext (own_ext0 K)) (S_LO_BYTE_SHIFT.ext (own_ext0 K))) eT pd_16 rfl (by rw [hml]; rfl) (by decide) 0 rfl (by decide) (by decide) (by decide) 35 rfl ?_
  intro T32 L9 v9 X hQ
  obtain ⟨rfl, N9, eT⟩ := hQ
  have N := Fr.app N N9
  show Go p e below _ T32 (mkF m 35 #[.val (.ref a1), .val (.int (0 : Int32)), .val (.int (3 : Int32)), .val (.ref b1), .val (.int (2 : Int32)), .val (.ref b23b1b4)] [(.int (nar .char ((((((updI (updI (updI (updI (updI (updI (fun _ => (0 : Int32)) 0 (nar .byte (((ar_a1 0) >>> ((0 : Int32) &&& 31)).toInt8.toInt32))) 1 (nar .byte (((ar_a1 0) >>> ((8 : Int32) &&& 31)).toInt8.toInt32))) 2 (nar .byte (((ar_a1 1) >>> ((0 : Int32) &&& 31)).toInt8.toInt32))) 3 (nar .byte (((ar_a1 1) >>> ((8 : Int32) &&& 31)).toInt8.toInt32))) 4 (nar .byte (((ar_a1 2) >>> ((0 : Int32) &&& 31)).toInt8.toInt32))) 5 (nar .byte (((ar_a1 2) >>> ((8 : Int32) &&& 31)).toInt8.toInt32))) 4) &&& (255 : Int32)) <<< ((0 : Int32) &&& 31)) ||| ((((updI (updI (updI (updI (updI (updI (fun _ => (0 : Int32)) 0 (nar .byte (((ar_a1 0) >>> ((0 : Int32) &&& 31)).toInt8.toInt32))) 1 (nar .byte (((ar_a1 0) >>> ((8 : Int32) &&& 31)).toInt8.toInt32))) 2 (nar .byte (((ar_a1 1) >>> ((0 : Int32) &&& 31)).toInt8.toInt32))) 3 (nar .byte (((ar_a1 1) >>> ((8 : Int32) &&& 31)).toInt8.toInt32))) 4 (nar .byte (((ar_a1 2) >>> ((0 : Int32) &&& 31)).toInt8.toInt32))) 5 (nar .byte (((ar_a1 2) >>> ((8 : Int32) &&& 31)).toInt8.toInt32))) 5) &&& (255 : Int32)) <<< ((8 : Int32) &&& 31))).toUInt32.toUInt16.toUInt32.toInt32)))])
  refine own_sipush X hx hby (255 : Int32) d7_35 rfl 38 rfl ?_
  have c38 : (255 : Int32) < (nar .char ((((((updI (updI (updI (updI (updI (updI (fun _ => (0 : Int32)) 0 (nar .byte (((ar_a1 0) >>> ((0 : Int32) &&& 31)).toInt8.toInt32))) 1 (nar .byte (((ar_a1 0) >>> ((8 : Int32) &&& 31)).toInt8.toInt32))) 2 (nar .byte (((ar_a1 1) >>> ((0 : Int32) &&& 31)).toInt8.toInt32))) 3 (nar .byte (((ar_a1 1) >>> ((8 : Int32) &&& 31)).toInt8.toInt32))) 4 (nar .byte (((ar_a1 2) >>> ((0 : Int32) &&& 31)).toInt8.toInt32))) 5 (nar .byte (((ar_a1 2) >>> ((8 : Int32) &&& 31)).toInt8.toInt32))) 4) &&& (255 : Int32)) <<< ((0 : Int32) &&& 31)) ||| ((((updI (updI (updI (updI (updI (updI (fun _ => (0 : Int32)) 0 (nar .byte (((ar_a1 0) >>> ((0 : Int32) &&& 31)).toInt8.toInt32))) 1 (nar .byte (((ar_a1 0) >>> ((8 : Int32) &&& 31)).toInt8.toInt32))) 2 (nar .byte (((ar_a1 1) >>> ((0 : Int32) &&& 31)).toInt8.toInt32))) 3 (nar .byte (((ar_a1 1) >>> ((8 : Int32) &&& 31)).toInt8.toInt32))) 4 (nar .byte (((ar_a1 2) >>> ((0 : Int32) &&& 31)).toInt8.toInt32))) 5 (nar .byte (((ar_a1 2) >>> ((8 : Int32) &&& 31)).toInt8.toInt32))) 5) &&& (255 : Int32)) <<< ((8 : Int32) &&& 31))).toUInt32.toUInt16.toUInt32.toInt32)) := (show (255 : Int32) < own_utf ((updI (updI (updI (updI (updI (updI (fun _ => (0 : Int32)) 0 (nar .byte (((ar_a1 0) >>> ((0 : Int32) &&& 31)).toInt8.toInt32))) 1 (nar .byte (((ar_a1 0) >>> ((8 : Int32) &&& 31)).toInt8.toInt32))) 2 (nar .byte (((ar_a1 1) >>> ((0 : Int32) &&& 31)).toInt8.toInt32))) 3 (nar .byte (((ar_a1 1) >>> ((8 : Int32) &&& 31)).toInt8.toInt32))) 4 (nar .byte (((ar_a1 2) >>> ((0 : Int32) &&& 31)).toInt8.toInt32))) 5 (nar .byte (((ar_a1 2) >>> ((8 : Int32) &&& 31)).toInt8.toInt32))) 4) ((updI (updI (updI (updI (updI (updI (fun _ => (0 : Int32)) 0 (nar .byte (((ar_a1 0) >>> ((0 : Int32) &&& 31)).toInt8.toInt32))) 1 (nar .byte (((ar_a1 0) >>> ((8 : Int32) &&& 31)).toInt8.toInt32))) 2 (nar .byte (((ar_a1 1) >>> ((0 : Int32) &&& 31)).toInt8.toInt32))) 3 (nar .byte (((ar_a1 1) >>> ((8 : Int32) &&& 31)).toInt8.toInt32))) 4 (nar .byte (((ar_a1 2) >>> ((0 : Int32) &&& 31)).toInt8.toInt32))) 5 (nar .byte (((ar_a1 2) >>> ((8 : Int32) &&& 31)).toInt8.toInt32))) 5) from own_gt (g := (updI (updI (updI (updI (updI (updI (fun _ => (0 : Int32)) 0 (nar .byte (((ar_a1 0) >>> ((0 : Int32) &&& 31)).toInt8.toInt32))) 1 (nar .byte (((ar_a1 0) >>> ((8 : Int32) &&& 31)).toInt8.toInt32))) 2 (nar .byte (((ar_a1 1) >>> ((0 : Int32) &&& 31)).toInt8.toInt32))) 3 (nar .byte (((ar_a1 1) >>> ((8 : Int32) &&& 31)).toInt8.toInt32))) 4 (nar .byte (((ar_a1 2) >>> ((0 : Int32) &&& 31)).toInt8.toInt32))) 5 (nar .byte (((ar_a1 2) >>> ((8 : Int32) &&& 31)).toInt8.toInt32)))) (i0 := 4) (i1 := 5) (c := (ar_a1 2)) rfl rfl (hrg 2) hk)
  refine own_icmp_gt X hx hby d7_38 54 41 (by decide) rfl (fun _ => ?_) (fun q => absurd c38 q)
  refine own_aload X hx hby (.ref b23b1b4) d7_54 rfl rfl 56 rfl ?_
  refine own_retA X hx hby hret hlk rfl rfl rfl d7_56 (by decide) (by decide) ?_
  rw [eT]
  exact ⟨b1, b23b1b4, rfl, N, K, sz_b1, sz_b23b1b4, A_b1, E_b1, A_b23b1b4, E_b23b1b4⟩
theorem ef_7_3_3 (a1 : Addr) (m : MethodId) : entryFrame m #[(.ref a1), (.int (0 : Int32)), (.int (3 : Int32))] 6 = mkF m 0 #[.val (.ref a1), .val (.int (0 : Int32)), .val (.int (3 : Int32)), .unset, .unset, .unset] [] := by first | (simp [entryFrame, mkF, argsToLocals, Value.category]; done) | rfl
def Q7_3_3 (Z : State) (a1 : Addr) (ar_a1 : Nat → Int32) (h0 : Heap) (n0 : Nat) (v : Option Value) (h : Heap) (L : List Loc) : Prop := ∃ (b1 : Addr), v = some (.ref b1) ∧ Fr n0 L ∧ Keep h0 h [] ∧ h0.size ≤ b1 ∧ Afi Z h b1 .byte 3 (updI (updI (updI (fun _ => (0 : Int32)) 0 (nar .byte ((ar_a1 0).toInt8.toInt32))) 1 (nar .byte ((ar_a1 1).toInt8.toInt32))) 2 (nar .byte ((ar_a1 2).toInt8.toInt32))) ∧ Exa Z h b1 "[B"
set_option maxRecDepth 65536 in
set_option maxHeartbeats 40000000 in
theorem rm7_3_3 (l : Launch) (Z : State) (a0 : Array Value) (hw : ∀ d ∈ tables_1, d.before a0 Z = true) (a1 : Addr) (ar_a1 : Nat → Int32) (h0 : Heap) (n0 : Nat) (Zs : n0 ≤ h0.size) (hc0 : ¬ (255 : Int32) < (ar_a1 0)) (hc1 : ¬ (255 : Int32) < (ar_a1 1)) (hc2 : ¬ (255 : Int32) < (ar_a1 2)) (A_a1 : Afi Z h0 a1 .char 3 ar_a1) (E_a1 : Exa Z h0 a1 "[C") (g_a1 : n0 ≤ a1) :
    Met1 l Z (⟨"java/lang/StringUTF16", "compress", "([CII)[B"⟩ : MethodName) jdk_52_method_16_code 6 (some (.array .byte)) ({ frames := 1, cells := 1, slots := 3, locals := 18 } : Room) #[(.ref a1), (.int (0 : Int32)), (.int (3 : Int32))] h0 (Q7_3_3 Z a1 ar_a1 h0 n0) := by
  refine own_met_of (plainFor_of_name pn_33) (ef_7_3_3 a1) ?_
  intro p e s m below meth c s₁ X hx hby hml hZ hown hnm hret hlk eT
  have hown : s.vm.findClass "java/lang/StringUTF16" = some m.cls := hown
  have N := Fr.nil n0
  have K := Keep.refl h0 []
  refine own_iloadN X hx hby (3 : Int32) d7_0 rfl 1 rfl ?_
  refine own_newarray X hx hby hZ (hw _ (List.mem_of_getElem? (i := 21) rfl)) eT d7_1 (z := (3 : Int32)) (by decide) (n := 3) rfl (cap := 3) (by decide) (by decide) (by decide) (by decide) (ad := "[B") rfl 3 rfl ?_
  intro T1 h1 b1 gb1 X eT Ex A A2
  have g_b1 : n0 ≤ b1 := by rw [gb1]; exact Zs
  have sz_b1 : h0.size ≤ b1 := by rw [gb1]; exact K.1
  have ne_a1_b1 : a1 ≠ b1 := Nat.ne_of_lt (by rw [gb1]; exact A_a1.lt)
  have A_a1 := A_a1.ext Ex
  have E_a1 := E_a1.ext Ex
  have A_b1 : Afi Z h1 b1 .byte 3 (fun _ => (0 : Int32)) := A
  have E_b1 := A2
  have K := K.ext Ex
  have Zs := Nat.le_trans Zs Ex.1
  refine own_astoreN X hx hby d7_3 rfl (l' := #[.val (.ref a1), .val (.int (0 : Int32)), .val (.int (3 : Int32)), .val (.ref b1), .unset, .unset]) rfl 4 rfl ?_
  refine own_aloadN X hx hby (.ref a1) d7_4 rfl rfl 5 rfl ?_
  refine own_iloadN X hx hby (0 : Int32) d7_5 rfl 6 rfl ?_
  refine own_aloadN X hx hby (.ref b1) d7_6 rfl rfl 7 rfl ?_
  refine own_iconst X hx hby (0 : Int32) d7_7 rfl 8 rfl ?_
  refine own_iloadN X hx hby (3 : Int32) d7_8 rfl 9 rfl ?_
  refine own_callS X hx hby hZ (st := []) [(.ref a1), (.int (0 : Int32)), (.ref b1), (.int (0 : Int32)), (.int (3 : Int32))] rfl hown (hw _ (List.mem_of_getElem? (i := 42) rfl)) (hw _ (List.mem_of_getElem? (i := 43) rfl)) (hw _ (List.mem_of_getElem? (i := 40) rfl)) (hw _ (List.mem_of_getElem? (i := 44) rfl)) (by decide) d7_9 (rm8_3_3 l Z a0 hw a1 b1 ar_a1 (fun _ => (0 : Int32)) h1 n0 Zs hc0 hc1 hc2 A_a1 E_a1 A_b1 E_b1 g_a1 g_b1) eT pd_22 rfl (by rw [hml]; rfl) (by decide) 0 rfl (by decide) (by decide) (by decide) 12 rfl ?_
  intro T9 L9 v9 X hQ
  obtain ⟨h9, eT⟩ : ∃ z, T9.heap = z := ⟨_, rfl⟩
  rw [eT] at hQ
  obtain ⟨rfl, N9, Kc, A_b1, E_b1⟩ := hQ
  have A_a1 := A_a1.keep Kc (ninS ne_a1_b1 nin0)
  have E_a1 := E_a1.keep Kc
  have K := K.trans Kc (allS (Or.inr sz_b1) all0)
  have Zs := Nat.le_trans Zs Kc.1
  have N := Fr.app N N9
  show Go p e below _ T9 (mkF m 12 #[.val (.ref a1), .val (.int (0 : Int32)), .val (.int (3 : Int32)), .val (.ref b1), .unset, .unset] [(.int (3 : Int32))])
  refine own_istore X hx hby d7_12 rfl (l' := #[.val (.ref a1), .val (.int (0 : Int32)), .val (.int (3 : Int32)), .val (.ref b1), .val (.int (3 : Int32)), .unset]) rfl 14 rfl ?_
  refine own_iload X hx hby (3 : Int32) d7_14 rfl 16 rfl ?_
  refine own_iloadN X hx hby (3 : Int32) d7_16 rfl 17 rfl ?_
  have c17 : (3 : Int32) = (3 : Int32) := by decide
  refine own_icmp_eq X hx hby d7_17 57 20 (by decide) rfl (fun _ => ?_) (fun q => absurd c17 q)
  refine own_aloadN X hx hby (.ref b1) d7_57 rfl rfl 58 rfl ?_
  refine own_retA X hx hby hret hlk rfl rfl rfl d7_58 (by decide) (by decide) ?_
  rw [eT]
  exact ⟨b1, rfl, N, K, sz_b1, A_b1, E_b1⟩
theorem ef_7_4_0 (a1 : Addr) (m : MethodId) : entryFrame m #[(.ref a1), (.int (0 : Int32)), (.int (4 : Int32))] 6 = mkF m 0 #[.val (.ref a1), .val (.int (0 : Int32)), .val (.int (4 : Int32)), .unset, .unset, .unset] [] := by first | (simp [entryFrame, mkF, argsToLocals, Value.category]; done) | rfl
def Q7_4_0 (Z : State) (a1 : Addr) (ar_a1 : Nat → Int32) (h0 : Heap) (n0 : Nat) (v : Option Value) (h : Heap) (L : List Loc) : Prop := ∃ (b1 : Addr) (b23b1b4 : Addr), v = some (.ref b23b1b4) ∧ Fr n0 L ∧ Keep h0 h [] ∧ h0.size ≤ b1 ∧ h0.size ≤ b23b1b4 ∧ Afi Z h b1 .byte 4 (fun _ => (0 : Int32)) ∧ Exa Z h b1 "[B" ∧ Afi Z h b23b1b4 .byte 8 (updI (updI (updI (updI (updI (updI (updI (updI (fun _ => (0 : Int32)) 0 (nar .byte (((ar_a1 0) >>> ((0 : Int32) &&& 31)).toInt8.toInt32))) 1 (nar .byte (((ar_a1 0) >>> ((8 : Int32) &&& 31)).toInt8.toInt32))) 2 (nar .byte (((ar_a1 1) >>> ((0 : Int32) &&& 31)).toInt8.toInt32))) 3 (nar .byte (((ar_a1 1) >>> ((8 : Int32) &&& 31)).toInt8.toInt32))) 4 (nar .byte (((ar_a1 2) >>> ((0 : Int32) &&& 31)).toInt8.toInt32))) 5 (nar .byte (((ar_a1 2) >>> ((8 : Int32) &&& 31)).toInt8.toInt32))) 6 (nar .byte (((ar_a1 3) >>> ((0 : Int32) &&& 31)).toInt8.toInt32))) 7 (nar .byte (((ar_a1 3) >>> ((8 : Int32) &&& 31)).toInt8.toInt32))) ∧ Exa Z h b23b1b4 "[B"
set_option maxRecDepth 65536 in
set_option maxHeartbeats 40000000 in
theorem rm7_4_0 (l : Launch) (Z : State) (a0 : Array Value) (hw : ∀ d ∈ tables_1, d.before a0 Z = true) (a1 : Addr) (ar_a1 : Nat → Int32) (h0 : Heap) (n0 : Nat) (Zs : n0 ≤ h0.size) (hk : (255 : Int32) < (ar_a1 0)) (hrg : ∀ i, 0 ≤ (ar_a1 i).toInt ∧ (ar_a1 i).toInt < 65536) (A_a1 : Afi Z h0 a1 .char 4 ar_a1) (E_a1 : Exa Z h0 a1 "[C") (S__assertionsDisabled : Sta Z h0 "java/lang/StringUTF16" "$assertionsDisabled" "Z" (.int (1 : Int32))) (S_HI_BYTE_SHIFT : Sta Z h0 "java/lang/StringUTF16" "HI_BYTE_SHIFT" "I" (.int (0 : Int32))) (S_LO_BYTE_SHIFT : Sta Z h0 "java/lang/StringUTF16" "LO_BYTE_SHIFT" "I" (.int (8 : Int32))) (g_a1 : n0 ≤ a1) :
    Met1 l Z (⟨"java/lang/StringUTF16", "compress", "([CII)[B"⟩ : MethodName) jdk_52_method_16_code 6 (some (.array .byte)) ({ frames := 3, cells := 2, slots := 12, locals := 40 } : Room) #[(.ref a1), (.int (0 : Int32)), (.int (4 : Int32))] h0 (Q7_4_0 Z a1 ar_a1 h0 n0) := by
  refine own_met_of (plainFor_of_name pn_33) (ef_7_4_0 a1) ?_
  intro p e s m below meth c s₁ X hx hby hml hZ hown hnm hret hlk eT
  have hown : s.vm.findClass "java/lang/StringUTF16" = some m.cls := hown
  have N := Fr.nil n0
  have K := Keep.refl h0 []
  refine own_iloadN X hx hby (4 : Int32) d7_0 rfl 1 rfl ?_
  refine own_newarray X hx hby hZ (hw _ (List.mem_of_getElem? (i := 21) rfl)) eT d7_1 (z := (4 : Int32)) (by decide) (n := 4) rfl (cap := 4) (by decide) (by decide) (by decide) (by decide) (ad := "[B") rfl 3 rfl ?_
  intro T1 h1 b1 gb1 X eT Ex A A2
  have g_b1 : n0 ≤ b1 := by rw [gb1]; exact Zs
  have sz_b1 : h0.size ≤ b1 := by rw [gb1]; exact K.1
  have ne_a1_b1 : a1 ≠ b1 := Nat.ne_of_lt (by rw [gb1]; exact A_a1.lt)
  have A_a1 := A_a1.ext Ex
  have E_a1 := E_a1.ext Ex
  have A_b1 : Afi Z h1 b1 .byte 4 (fun _ => (0 : Int32)) := A
  have E_b1 := A2
  have K := K.ext Ex
  have Zs := Nat.le_trans Zs Ex.1
  refine own_astoreN X hx hby d7_3 rfl (l' := #[.val (.ref a1), .val (.int (0 : Int32)), .val (.int (4 : Int32)), .val (.ref b1), .unset, .unset]) rfl 4 rfl ?_
  refine own_aloadN X hx hby (.ref a1) d7_4 rfl rfl 5 rfl ?_
  refine own_iloadN X hx hby (0 : Int32) d7_5 rfl 6 rfl ?_
  refine own_aloadN X hx hby (.ref b1) d7_6 rfl rfl 7 rfl ?_
  refine own_iconst X hx hby (0 : Int32) d7_7 rfl 8 rfl ?_
  refine own_iloadN X hx hby (4 : Int32) d7_8 rfl 9 rfl ?_
  refine own_callS X hx hby hZ (st := []) [(.ref a1), (.int (0 : Int32)), (.ref b1), (.int (0 : Int32)), (.int (4 : Int32))] rfl hown (hw _ (List.mem_of_getElem? (i := 42) rfl)) (hw _ (List.mem_of_getElem? (i := 43) rfl)) (hw _ (List.mem_of_getElem? (i := 40) rfl)) (hw _ (List.mem_of_getElem? (i := 44) rfl)) (by decide) d7_9 (rm8_4_0 l Z a0 hw a1 b1 ar_a1 (fun _ => (0 : Int32)) h1 n0 Zs hk A_a1 E_a1 A_b1 E_b1 g_a1 g_b1) eT pd_22 rfl (by rw [hml]; rfl) (by decide) 0 rfl (by decide) (by decide) (by decide) 12 rfl ?_
  intro T9 L9 v9 X hQ
  obtain ⟨rfl, N9, eT⟩ := hQ
  have N := Fr.app N N9
  show Go p e below _ T9 (mkF m 12 #[.val (.ref a1), .val (.int (0 : Int32)), .val (.int (4 : Int32)), .val (.ref b1), .unset, .unset] [(.int (0 : Int32))])
  refine own_istore X hx hby d7_12 rfl (l' := #[.val (.ref a1), .val (.int (0 : Int32)), .val (.int (4 : Int32)), .val (.ref b1), .val (.int (0 : Int32)), .unset]) rfl 14 rfl ?_
  refine own_iload X hx hby (0 : Int32) d7_14 rfl 16 rfl ?_
  refine own_iloadN X hx hby (4 : Int32) d7_16 rfl 17 rfl ?_
  have c17 : ¬ (0 : Int32) = (4 : Int32) := by decide
  refine own_icmp_eq X hx hby d7_17 57 20 (by decide) rfl (fun q => absurd q c17) (fun _ => ?_)
  refine own_aloadN X hx hby (.ref a1) d7_20 rfl rfl 21 rfl ?_
  refine own_iloadN X hx hby (0 : Int32) d7_21 rfl 22 rfl ?_
  refine own_iloadN X hx hby (4 : Int32) d7_22 rfl 23 rfl ?_
  refine own_callS X hx hby hZ (st := []) [(.ref a1), (.int (0 : Int32)), (.int (4 : Int32))] rfl hown (hw _ (List.mem_of_getElem? (i := 115) rfl)) (hw _ (List.mem_of_getElem? (i := 116) rfl)) (hw _ (List.mem_of_getElem? (i := 40) rfl)) (hw _ (List.mem_of_getElem? (i := 117) rfl)) (by decide) d7_23 (rm26_4 l Z a0 hw a1 ar_a1 h1 n0 Zs A_a1 E_a1 (S__assertionsDisabled.ext (own_ext0 K)) (S_HI_BYTE_SHIFT.ext (own_ext0 K)) (S_LO_BYTE_SHIFT.ext (own_ext0 K))) eT pd_20 rfl (by rw [hml]; rfl) (by decide) 0 rfl (by decide) (by decide) (by decide) 26 rfl ?_
  intro T23 L9 v9 X hQ
  obtain ⟨h23, eT⟩ : ∃ z, T23.heap = z := ⟨_, rfl⟩
  rw [eT] at hQ
  have lt_a1 := A_a1.lt
  have lt_b1 := A_b1.lt
  obtain ⟨b23b1b4, rfl, N9, Kc, hs_b23b1b4, A_b23b1b4, E_b23b1b4⟩ := hQ
  have g_b23b1b4 : n0 ≤ b23b1b4 := Nat.le_trans Zs hs_b23b1b4
  have sz_b23b1b4 : h0.size ≤ b23b1b4 := Nat.le_trans K.1 hs_b23b1b4
  have ne_a1_b23b1b4 : a1 ≠ b23b1b4 := Nat.ne_of_lt (Nat.lt_of_lt_of_le lt_a1 hs_b23b1b4)
  have ne_b1_b23b1b4 : b1 ≠ b23b1b4 := Nat.ne_of_lt (Nat.lt_of_lt_of_le lt_b1 hs_b23b1b4)
  have A_a1 := A_a1.keep Kc nin0
  have E_a1 := E_a1.keep Kc
  have A_b1 := A_b1.keep Kc nin0
  have E_b1 := E_b1.keep Kc
  have K := K.trans Kc all0
  have Zs := Nat.le_trans Zs Kc.1
  have N := Fr.app N N9
  show Go p e below _ T23 (mkF m 26 #[.val (.ref a1), .val (.int (0 : Int32)), .val (.int (4 : Int32)), .val (.ref b1), .val (.int (0 : Int32)), .unset] [(.ref b23b1b4)])
  refine own_astore X hx hby d7_26 rfl (l' := #[.val (.ref a1), .val (.int (0 : Int32)), .val (.int (4 : Int32)), .val (.ref b1), .val (.int (0 : Int32)), .val (.ref b23b1b4)]) rfl 28 rfl ?_
  refine own_aload X hx hby (.ref b23b1b4) d7_28 rfl rfl 30 rfl ?_
  refine own_iload X hx hby (0 : Int32) d7_30 rfl 32 rfl ?_
  refine own_callS X hx hby hZ (st := []) [(.ref b23b1b4), (.int (0 : Int32))] rfl hown (hw _ (List.mem_of_getElem? (i := 131) rfl)) (hw _ (List.mem_of_getElem? (i := 132) rfl)) (hw _ (List.mem_of_getElem? (i := 40) rfl)) (hw _ (List.mem_of_getElem? (i := 133) rfl)) (by decide) d7_32 (rm30_0 l Z a0 hw b23b1b4 (updI (updI (updI (updI (updI (updI (updI (updI (fun _ => (0 : Int32)) 0 (nar .byte (((ar_a1 0) >>> ((0 : Int32) &&& 31)).toInt8.toInt32))) 1 (nar .byte (((ar_a1 0) >>> ((8 : Int32) &&& 31)).toInt8.toInt32))) 2 (nar .byte (((ar_a1 1) >>> ((0 : Int32) &&& 31)).toInt8.toInt32))) 3 (nar .byte (((ar_a1 1) >>> ((8 : Int32) &&& 31)).toInt8.toInt32))) 4 (nar .byte (((ar_a1 2) >>> ((0 : Int32) &&& 31)).toInt8.toInt32))) 5 (nar .byte (((ar_a1 2) >>> ((8 : Int32) &&& 31)).toInt8.toInt32))) 6 (nar .byte (((ar_a1 3) >>> ((0 : Int32) &&& 31)).toInt8.toInt32))) 7 (nar .byte (((ar_a1 3) >>> ((8 : Int32) &&& 31)).toInt8.toInt32))) 8 h23 n0 Zs (by decide) (by decide) A_b23b1b4 (S__assertionsDisabled.ext (own_ext0 K)) (S_HI_BYTE_SHIFT.ext (own_ext0 K)) (S_LO_BYTE_SHIFT.ext (own_ext0 K))) eT pd_16 rfl (by rw [hml]; rfl) (by decide) 0 rfl (by decide) (by decide) (by decide) 35 rfl ?_
  intro T32 L9 v9 X hQ
  obtain ⟨rfl, N9, eT⟩ := hQ
  have N := Fr.app N N9
  show Go p e below _ T32 (mkF m 35 #[.val (.ref a1), .val (.int (0 : Int32)), .val (.int (4 : Int32)), .val (.ref b1), .val (.int (0 : Int32)), .val (.ref b23b1b4)] [(.int (nar .char ((((((updI (updI (updI (updI (updI (updI (updI (updI (fun _ => (0 : Int32)) 0 (nar .byte (((ar_a1 0) >>> ((0 : Int32) &&& 31)).toInt8.toInt32))) 1 (nar .byte (((ar_a1 0) >>> ((8 : Int32) &&& 31)).toInt8.toInt32))) 2 (nar .byte (((ar_a1 1) >>> ((0 : Int32) &&& 31)).toInt8.toInt32))) 3 (nar .byte (((ar_a1 1) >>> ((8 : Int32) &&& 31)).toInt8.toInt32))) 4 (nar .byte (((ar_a1 2) >>> ((0 : Int32) &&& 31)).toInt8.toInt32))) 5 (nar .byte (((ar_a1 2) >>> ((8 : Int32) &&& 31)).toInt8.toInt32))) 6 (nar .byte (((ar_a1 3) >>> ((0 : Int32) &&& 31)).toInt8.toInt32))) 7 (nar .byte (((ar_a1 3) >>> ((8 : Int32) &&& 31)).toInt8.toInt32))) 0) &&& (255 : Int32)) <<< ((0 : Int32) &&& 31)) ||| ((((updI (updI (updI (updI (updI (updI (updI (updI (fun _ => (0 : Int32)) 0 (nar .byte (((ar_a1 0) >>> ((0 : Int32) &&& 31)).toInt8.toInt32))) 1 (nar .byte (((ar_a1 0) >>> ((8 : Int32) &&& 31)).toInt8.toInt32))) 2 (nar .byte (((ar_a1 1) >>> ((0 : Int32) &&& 31)).toInt8.toInt32))) 3 (nar .byte (((ar_a1 1) >>> ((8 : Int32) &&& 31)).toInt8.toInt32))) 4 (nar .byte (((ar_a1 2) >>> ((0 : Int32) &&& 31)).toInt8.toInt32))) 5 (nar .byte (((ar_a1 2) >>> ((8 : Int32) &&& 31)).toInt8.toInt32))) 6 (nar .byte (((ar_a1 3) >>> ((0 : Int32) &&& 31)).toInt8.toInt32))) 7 (nar .byte (((ar_a1 3) >>> ((8 : Int32) &&& 31)).toInt8.toInt32))) 1) &&& (255 : Int32)) <<< ((8 : Int32) &&& 31))).toUInt32.toUInt16.toUInt32.toInt32)))])
  refine own_sipush X hx hby (255 : Int32) d7_35 rfl 38 rfl ?_
  have c38 : (255 : Int32) < (nar .char ((((((updI (updI (updI (updI (updI (updI (updI (updI (fun _ => (0 : Int32)) 0 (nar .byte (((ar_a1 0) >>> ((0 : Int32) &&& 31)).toInt8.toInt32))) 1 (nar .byte (((ar_a1 0) >>> ((8 : Int32) &&& 31)).toInt8.toInt32))) 2 (nar .byte (((ar_a1 1) >>> ((0 : Int32) &&& 31)).toInt8.toInt32))) 3 (nar .byte (((ar_a1 1) >>> ((8 : Int32) &&& 31)).toInt8.toInt32))) 4 (nar .byte (((ar_a1 2) >>> ((0 : Int32) &&& 31)).toInt8.toInt32))) 5 (nar .byte (((ar_a1 2) >>> ((8 : Int32) &&& 31)).toInt8.toInt32))) 6 (nar .byte (((ar_a1 3) >>> ((0 : Int32) &&& 31)).toInt8.toInt32))) 7 (nar .byte (((ar_a1 3) >>> ((8 : Int32) &&& 31)).toInt8.toInt32))) 0) &&& (255 : Int32)) <<< ((0 : Int32) &&& 31)) ||| ((((updI (updI (updI (updI (updI (updI (updI (updI (fun _ => (0 : Int32)) 0 (nar .byte (((ar_a1 0) >>> ((0 : Int32) &&& 31)).toInt8.toInt32))) 1 (nar .byte (((ar_a1 0) >>> ((8 : Int32) &&& 31)).toInt8.toInt32))) 2 (nar .byte (((ar_a1 1) >>> ((0 : Int32) &&& 31)).toInt8.toInt32))) 3 (nar .byte (((ar_a1 1) >>> ((8 : Int32) &&& 31)).toInt8.toInt32))) 4 (nar .byte (((ar_a1 2) >>> ((0 : Int32) &&& 31)).toInt8.toInt32))) 5 (nar .byte (((ar_a1 2) >>> ((8 : Int32) &&& 31)).toInt8.toInt32))) 6 (nar .byte (((ar_a1 3) >>> ((0 : Int32) &&& 31)).toInt8.toInt32))) 7 (nar .byte (((ar_a1 3) >>> ((8 : Int32) &&& 31)).toInt8.toInt32))) 1) &&& (255 : Int32)) <<< ((8 : Int32) &&& 31))).toUInt32.toUInt16.toUInt32.toInt32)) := (show (255 : Int32) < own_utf ((updI (updI (updI (updI (updI (updI (updI (updI (fun _ => (0 : Int32)) 0 (nar .byte (((ar_a1 0) >>> ((0 : Int32) &&& 31)).toInt8.toInt32))) 1 (nar .byte (((ar_a1 0) >>> ((8 : Int32) &&& 31)).toInt8.toInt32))) 2 (nar .byte (((ar_a1 1) >>> ((0 : Int32) &&& 31)).toInt8.toInt32))) 3 (nar .byte (((ar_a1 1) >>> ((8 : Int32) &&& 31)).toInt8.toInt32))) 4 (nar .byte (((ar_a1 2) >>> ((0 : Int32) &&& 31)).toInt8.toInt32))) 5 (nar .byte (((ar_a1 2) >>> ((8 : Int32) &&& 31)).toInt8.toInt32))) 6 (nar .byte (((ar_a1 3) >>> ((0 : Int32) &&& 31)).toInt8.toInt32))) 7 (nar .byte (((ar_a1 3) >>> ((8 : Int32) &&& 31)).toInt8.toInt32))) 0) ((updI (updI (updI (updI (updI (updI (updI (updI (fun _ => (0 : Int32)) 0 (nar .byte (((ar_a1 0) >>> ((0 : Int32) &&& 31)).toInt8.toInt32))) 1 (nar .byte (((ar_a1 0) >>> ((8 : Int32) &&& 31)).toInt8.toInt32))) 2 (nar .byte (((ar_a1 1) >>> ((0 : Int32) &&& 31)).toInt8.toInt32))) 3 (nar .byte (((ar_a1 1) >>> ((8 : Int32) &&& 31)).toInt8.toInt32))) 4 (nar .byte (((ar_a1 2) >>> ((0 : Int32) &&& 31)).toInt8.toInt32))) 5 (nar .byte (((ar_a1 2) >>> ((8 : Int32) &&& 31)).toInt8.toInt32))) 6 (nar .byte (((ar_a1 3) >>> ((0 : Int32) &&& 31)).toInt8.toInt32))) 7 (nar .byte (((ar_a1 3) >>> ((8 : Int32) &&& 31)).toInt8.toInt32))) 1) from own_gt (g := (updI (updI (updI (updI (updI (updI (updI (updI (fun _ => (0 : Int32)) 0 (nar .byte (((ar_a1 0) >>> ((0 : Int32) &&& 31)).toInt8.toInt32))) 1 (nar .byte (((ar_a1 0) >>> ((8 : Int32) &&& 31)).toInt8.toInt32))) 2 (nar .byte (((ar_a1 1) >>> ((0 : Int32) &&& 31)).toInt8.toInt32))) 3 (nar .byte (((ar_a1 1) >>> ((8 : Int32) &&& 31)).toInt8.toInt32))) 4 (nar .byte (((ar_a1 2) >>> ((0 : Int32) &&& 31)).toInt8.toInt32))) 5 (nar .byte (((ar_a1 2) >>> ((8 : Int32) &&& 31)).toInt8.toInt32))) 6 (nar .byte (((ar_a1 3) >>> ((0 : Int32) &&& 31)).toInt8.toInt32))) 7 (nar .byte (((ar_a1 3) >>> ((8 : Int32) &&& 31)).toInt8.toInt32)))) (i0 := 0) (i1 := 1) (c := (ar_a1 0)) rfl rfl (hrg 0) hk)
  refine own_icmp_gt X hx hby d7_38 54 41 (by decide) rfl (fun _ => ?_) (fun q => absurd c38 q)
  refine own_aload X hx hby (.ref b23b1b4) d7_54 rfl rfl 56 rfl ?_
  refine own_retA X hx hby hret hlk rfl rfl rfl d7_56 (by decide) (by decide) ?_
  rw [eT]
  exact ⟨b1, b23b1b4, rfl, N, K, sz_b1, sz_b23b1b4, A_b1, E_b1, A_b23b1b4, E_b23b1b4⟩
theorem ef_7_4_1 (a1 : Addr) (m : MethodId) : entryFrame m #[(.ref a1), (.int (0 : Int32)), (.int (4 : Int32))] 6 = mkF m 0 #[.val (.ref a1), .val (.int (0 : Int32)), .val (.int (4 : Int32)), .unset, .unset, .unset] [] := by first | (simp [entryFrame, mkF, argsToLocals, Value.category]; done) | rfl
def Q7_4_1 (Z : State) (a1 : Addr) (ar_a1 : Nat → Int32) (h0 : Heap) (n0 : Nat) (v : Option Value) (h : Heap) (L : List Loc) : Prop := ∃ (b1 : Addr) (b23b1b4 : Addr), v = some (.ref b23b1b4) ∧ Fr n0 L ∧ Keep h0 h [] ∧ h0.size ≤ b1 ∧ h0.size ≤ b23b1b4 ∧ Afi Z h b1 .byte 4 (updI (fun _ => (0 : Int32)) 0 (nar .byte ((ar_a1 0).toInt8.toInt32))) ∧ Exa Z h b1 "[B" ∧ Afi Z h b23b1b4 .byte 8 (updI (updI (updI (updI (updI (updI (updI (updI (fun _ => (0 : Int32)) 0 (nar .byte (((ar_a1 0) >>> ((0 : Int32) &&& 31)).toInt8.toInt32))) 1 (nar .byte (((ar_a1 0) >>> ((8 : Int32) &&& 31)).toInt8.toInt32))) 2 (nar .byte (((ar_a1 1) >>> ((0 : Int32) &&& 31)).toInt8.toInt32))) 3 (nar .byte (((ar_a1 1) >>> ((8 : Int32) &&& 31)).toInt8.toInt32))) 4 (nar .byte (((ar_a1 2) >>> ((0 : Int32) &&& 31)).toInt8.toInt32))) 5 (nar .byte (((ar_a1 2) >>> ((8 : Int32) &&& 31)).toInt8.toInt32))) 6 (nar .byte (((ar_a1 3) >>> ((0 : Int32) &&& 31)).toInt8.toInt32))) 7 (nar .byte (((ar_a1 3) >>> ((8 : Int32) &&& 31)).toInt8.toInt32))) ∧ Exa Z h b23b1b4 "[B"
set_option maxRecDepth 65536 in
set_option maxHeartbeats 40000000 in
theorem rm7_4_1 (l : Launch) (Z : State) (a0 : Array Value) (hw : ∀ d ∈ tables_1, d.before a0 Z = true) (a1 : Addr) (ar_a1 : Nat → Int32) (h0 : Heap) (n0 : Nat) (Zs : n0 ≤ h0.size) (hc0 : ¬ (255 : Int32) < (ar_a1 0)) (hk : (255 : Int32) < (ar_a1 1)) (hrg : ∀ i, 0 ≤ (ar_a1 i).toInt ∧ (ar_a1 i).toInt < 65536) (A_a1 : Afi Z h0 a1 .char 4 ar_a1) (E_a1 : Exa Z h0 a1 "[C") (S__assertionsDisabled : Sta Z h0 "java/lang/StringUTF16" "$assertionsDisabled" "Z" (.int (1 : Int32))) (S_HI_BYTE_SHIFT : Sta Z h0 "java/lang/StringUTF16" "HI_BYTE_SHIFT" "I" (.int (0 : Int32))) (S_LO_BYTE_SHIFT : Sta Z h0 "java/lang/StringUTF16" "LO_BYTE_SHIFT" "I" (.int (8 : Int32))) (g_a1 : n0 ≤ a1) :
    Met1 l Z (⟨"java/lang/StringUTF16", "compress", "([CII)[B"⟩ : MethodName) jdk_52_method_16_code 6 (some (.array .byte)) ({ frames := 3, cells := 2, slots := 12, locals := 40 } : Room) #[(.ref a1), (.int (0 : Int32)), (.int (4 : Int32))] h0 (Q7_4_1 Z a1 ar_a1 h0 n0) := by
  refine own_met_of (plainFor_of_name pn_33) (ef_7_4_1 a1) ?_
  intro p e s m below meth c s₁ X hx hby hml hZ hown hnm hret hlk eT
  have hown : s.vm.findClass "java/lang/StringUTF16" = some m.cls := hown
  have N := Fr.nil n0
  have K := Keep.refl h0 []
  refine own_iloadN X hx hby (4 : Int32) d7_0 rfl 1 rfl ?_
  refine own_newarray X hx hby hZ (hw _ (List.mem_of_getElem? (i := 21) rfl)) eT d7_1 (z := (4 : Int32)) (by decide) (n := 4) rfl (cap := 4) (by decide) (by decide) (by decide) (by decide) (ad := "[B") rfl 3 rfl ?_
  intro T1 h1 b1 gb1 X eT Ex A A2
  have g_b1 : n0 ≤ b1 := by rw [gb1]; exact Zs
  have sz_b1 : h0.size ≤ b1 := by rw [gb1]; exact K.1
  have ne_a1_b1 : a1 ≠ b1 := Nat.ne_of_lt (by rw [gb1]; exact A_a1.lt)
  have A_a1 := A_a1.ext Ex
  have E_a1 := E_a1.ext Ex
  have A_b1 : Afi Z h1 b1 .byte 4 (fun _ => (0 : Int32)) := A
  have E_b1 := A2
  have K := K.ext Ex
  have Zs := Nat.le_trans Zs Ex.1
  refine own_astoreN X hx hby d7_3 rfl (l' := #[.val (.ref a1), .val (.int (0 : Int32)), .val (.int (4 : Int32)), .val (.ref b1), .unset, .unset]) rfl 4 rfl ?_
  refine own_aloadN X hx hby (.ref a1) d7_4 rfl rfl 5 rfl ?_
  refine own_iloadN X hx hby (0 : Int32) d7_5 rfl 6 rfl ?_
  refine own_aloadN X hx hby (.ref b1) d7_6 rfl rfl 7 rfl ?_
  refine own_iconst X hx hby (0 : Int32) d7_7 rfl 8 rfl ?_
  refine own_iloadN X hx hby (4 : Int32) d7_8 rfl 9 rfl ?_
  refine own_callS X hx hby hZ (st := []) [(.ref a1), (.int (0 : Int32)), (.ref b1), (.int (0 : Int32)), (.int (4 : Int32))] rfl hown (hw _ (List.mem_of_getElem? (i := 42) rfl)) (hw _ (List.mem_of_getElem? (i := 43) rfl)) (hw _ (List.mem_of_getElem? (i := 40) rfl)) (hw _ (List.mem_of_getElem? (i := 44) rfl)) (by decide) d7_9 (rm8_4_1 l Z a0 hw a1 b1 ar_a1 (fun _ => (0 : Int32)) h1 n0 Zs hc0 hk A_a1 E_a1 A_b1 E_b1 g_a1 g_b1) eT pd_22 rfl (by rw [hml]; rfl) (by decide) 0 rfl (by decide) (by decide) (by decide) 12 rfl ?_
  intro T9 L9 v9 X hQ
  obtain ⟨h9, eT⟩ : ∃ z, T9.heap = z := ⟨_, rfl⟩
  rw [eT] at hQ
  obtain ⟨rfl, N9, Kc, A_b1, E_b1⟩ := hQ
  have A_a1 := A_a1.keep Kc (ninS ne_a1_b1 nin0)
  have E_a1 := E_a1.keep Kc
  have K := K.trans Kc (allS (Or.inr sz_b1) all0)
  have Zs := Nat.le_trans Zs Kc.1
  have N := Fr.app N N9
  show Go p e below _ T9 (mkF m 12 #[.val (.ref a1), .val (.int (0 : Int32)), .val (.int (4 : Int32)), .val (.ref b1), .unset, .unset] [(.int (1 : Int32))])
  refine own_istore X hx hby d7_12 rfl (l' := #[.val (.ref a1), .val (.int (0 : Int32)), .val (.int (4 : Int32)), .val (.ref b1), .val (.int (1 : Int32)), .unset]) rfl 14 rfl ?_
  refine own_iload X hx hby (1 : Int32) d7_14 rfl 16 rfl ?_
  refine own_iloadN X hx hby (4 : Int32) d7_16 rfl 17 rfl ?_
  have c17 : ¬ (1 : Int32) = (4 : Int32) := by decide
  refine own_icmp_eq X hx hby d7_17 57 20 (by decide) rfl (fun q => absurd q c17) (fun _ => ?_)
  refine own_aloadN X hx hby (.ref a1) d7_20 rfl rfl 21 rfl ?_
  refine own_iloadN X hx hby (0 : Int32) d7_21 rfl 22 rfl ?_
  refine own_iloadN X hx hby (4 : Int32) d7_22 rfl 23 rfl ?_
  refine own_callS X hx hby hZ (st := []) [(.ref a1), (.int (0 : Int32)), (.int (4 : Int32))] rfl hown (hw _ (List.mem_of_getElem? (i := 115) rfl)) (hw _ (List.mem_of_getElem? (i := 116) rfl)) (hw _ (List.mem_of_getElem? (i := 40) rfl)) (hw _ (List.mem_of_getElem? (i := 117) rfl)) (by decide) d7_23 (rm26_4 l Z a0 hw a1 ar_a1 h9 n0 Zs A_a1 E_a1 (S__assertionsDisabled.ext (own_ext0 K)) (S_HI_BYTE_SHIFT.ext (own_ext0 K)) (S_LO_BYTE_SHIFT.ext (own_ext0 K))) eT pd_20 rfl (by rw [hml]; rfl) (by decide) 0 rfl (by decide) (by decide) (by decide) 26 rfl ?_
  intro T23 L9 v9 X hQ
  obtain ⟨h23, eT⟩ : ∃ z, T23.heap = z := ⟨_, rfl⟩
  rw [eT] at hQ
  have lt_a1 := A_a1.lt
  have lt_b1 := A_b1.lt
  obtain ⟨b23b1b4, rfl, N9, Kc, hs_b23b1b4, A_b23b1b4, E_b23b1b4⟩ := hQ
  have g_b23b1b4 : n0 ≤ b23b1b4 := Nat.le_trans Zs hs_b23b1b4
  have sz_b23b1b4 : h0.size ≤ b23b1b4 := Nat.le_trans K.1 hs_b23b1b4
  have ne_a1_b23b1b4 : a1 ≠ b23b1b4 := Nat.ne_of_lt (Nat.lt_of_lt_of_le lt_a1 hs_b23b1b4)
  have ne_b1_b23b1b4 : b1 ≠ b23b1b4 := Nat.ne_of_lt (Nat.lt_of_lt_of_le lt_b1 hs_b23b1b4)
  have A_a1 := A_a1.keep Kc nin0
  have E_a1 := E_a1.keep Kc
  have A_b1 := A_b1.keep Kc nin0
  have E_b1 := E_b1.keep Kc
  have K := K.trans Kc all0
  have Zs := Nat.le_trans Zs Kc.1
  have N := Fr.app N N9
  show Go p e below _ T23 (mkF m 26 #[.val (.ref a1), .val (.int (0 : Int32)), .val (.int (4 : Int32)), .val (.ref b1), .val (.int (1 : Int32)), .unset] [(.ref b23b1b4)])
  refine own_astore X hx hby d7_26 rfl (l' := #[.val (.ref a1), .val (.int (0 : Int32)), .val (.int (4 : Int32)), .val (.ref b1), .val (.int (1 : Int32)), .val (.ref b23b1b4)]) rfl 28 rfl ?_
  refine own_aload X hx hby (.ref b23b1b4) d7_28 rfl rfl 30 rfl ?_
  refine own_iload X hx hby (1 : Int32) d7_30 rfl 32 rfl ?_
  refine own_callS X hx hby hZ (st := []) [(.ref b23b1b4), (.int (1 : Int32))] rfl hown (hw _ (List.mem_of_getElem? (i := 131) rfl)) (hw _ (List.mem_of_getElem? (i := 132) rfl)) (hw _ (List.mem_of_getElem? (i := 40) rfl)) (hw _ (List.mem_of_getElem? (i := 133) rfl)) (by decide) d7_32 (rm30_1 l Z a0 hw b23b1b4 (updI (updI (updI (updI (updI (updI (updI (updI (fun _ => (0 : Int32)) 0 (nar .byte (((ar_a1 0) >>> ((0 : Int32) &&& 31)).toInt8.toInt32))) 1 (nar .byte (((ar_a1 0) >>> ((8 : Int32) &&& 31)).toInt8.toInt32))) 2 (nar .byte (((ar_a1 1) >>> ((0 : Int32) &&& 31)).toInt8.toInt32))) 3 (nar .byte (((ar_a1 1) >>> ((8 : Int32) &&& 31)).toInt8.toInt32))) 4 (nar .byte (((ar_a1 2) >>> ((0 : Int32) &&& 31)).toInt8.toInt32))) 5 (nar .byte (((ar_a1 2) >>> ((8 : Int32) &&& 31)).toInt8.toInt32))) 6 (nar .byte (((ar_a1 3) >>> ((0 : Int32) &&& 31)).toInt8.toInt32))) 7 (nar .byte (((ar_a1 3) >>> ((8 : Int32) &&& 31)).toInt8.toInt32))) 8 h23 n0 Zs (by decide) (by decide) A_b23b1b4 (S__assertionsDisabled.ext (own_ext0 K)) (S_HI_BYTE_SHIFT.ext (own_ext0 K)) (S_LO_BYTE_SHIFT.ext (own_ext0 K))) eT pd_16 rfl (by rw [hml]; rfl) (by decide) 0 rfl (by decide) (by decide) (by decide) 35 rfl ?_
  intro T32 L9 v9 X hQ
  obtain ⟨rfl, N9, eT⟩ := hQ
  have N := Fr.app N N9
  show Go p e below _ T32 (mkF m 35 #[.val (.ref a1), .val (.int (0 : Int32)), .val (.int (4 : Int32)), .val (.ref b1), .val (.int (1 : Int32)), .val (.ref b23b1b4)] [(.int (nar .char ((((((updI (updI (updI (updI (updI (updI (updI (updI (fun _ => (0 : Int32)) 0 (nar .byte (((ar_a1 0) >>> ((0 : Int32) &&& 31)).toInt8.toInt32))) 1 (nar .byte (((ar_a1 0) >>> ((8 : Int32) &&& 31)).toInt8.toInt32))) 2 (nar .byte (((ar_a1 1) >>> ((0 : Int32) &&& 31)).toInt8.toInt32))) 3 (nar .byte (((ar_a1 1) >>> ((8 : Int32) &&& 31)).toInt8.toInt32))) 4 (nar .byte (((ar_a1 2) >>> ((0 : Int32) &&& 31)).toInt8.toInt32))) 5 (nar .byte (((ar_a1 2) >>> ((8 : Int32) &&& 31)).toInt8.toInt32))) 6 (nar .byte (((ar_a1 3) >>> ((0 : Int32) &&& 31)).toInt8.toInt32))) 7 (nar .byte (((ar_a1 3) >>> ((8 : Int32) &&& 31)).toInt8.toInt32))) 2) &&& (255 : Int32)) <<< ((0 : Int32) &&& 31)) ||| ((((updI (updI (updI (updI (updI (updI (updI (updI (fun _ => (0 : Int32)) 0 (nar .byte (((ar_a1 0) >>> ((0 : Int32) &&& 31)).toInt8.toInt32))) 1 (nar .byte (((ar_a1 0) >>> ((8 : Int32) &&& 31)).toInt8.toInt32))) 2 (nar .byte (((ar_a1 1) >>> ((0 : Int32) &&& 31)).toInt8.toInt32))) 3 (nar .byte (((ar_a1 1) >>> ((8 : Int32) &&& 31)).toInt8.toInt32))) 4 (nar .byte (((ar_a1 2) >>> ((0 : Int32) &&& 31)).toInt8.toInt32))) 5 (nar .byte (((ar_a1 2) >>> ((8 : Int32) &&& 31)).toInt8.toInt32))) 6 (nar .byte (((ar_a1 3) >>> ((0 : Int32) &&& 31)).toInt8.toInt32))) 7 (nar .byte (((ar_a1 3) >>> ((8 : Int32) &&& 31)).toInt8.toInt32))) 3) &&& (255 : Int32)) <<< ((8 : Int32) &&& 31))).toUInt32.toUInt16.toUInt32.toInt32)))])
  refine own_sipush X hx hby (255 : Int32) d7_35 rfl 38 rfl ?_
  have c38 : (255 : Int32) < (nar .char ((((((updI (updI (updI (updI (updI (updI (updI (updI (fun _ => (0 : Int32)) 0 (nar .byte (((ar_a1 0) >>> ((0 : Int32) &&& 31)).toInt8.toInt32))) 1 (nar .byte (((ar_a1 0) >>> ((8 : Int32) &&& 31)).toInt8.toInt32))) 2 (nar .byte (((ar_a1 1) >>> ((0 : Int32) &&& 31)).toInt8.toInt32))) 3 (nar .byte (((ar_a1 1) >>> ((8 : Int32) &&& 31)).toInt8.toInt32))) 4 (nar .byte (((ar_a1 2) >>> ((0 : Int32) &&& 31)).toInt8.toInt32))) 5 (nar .byte (((ar_a1 2) >>> ((8 : Int32) &&& 31)).toInt8.toInt32))) 6 (nar .byte (((ar_a1 3) >>> ((0 : Int32) &&& 31)).toInt8.toInt32))) 7 (nar .byte (((ar_a1 3) >>> ((8 : Int32) &&& 31)).toInt8.toInt32))) 2) &&& (255 : Int32)) <<< ((0 : Int32) &&& 31)) ||| ((((updI (updI (updI (updI (updI (updI (updI (updI (fun _ => (0 : Int32)) 0 (nar .byte (((ar_a1 0) >>> ((0 : Int32) &&& 31)).toInt8.toInt32))) 1 (nar .byte (((ar_a1 0) >>> ((8 : Int32) &&& 31)).toInt8.toInt32))) 2 (nar .byte (((ar_a1 1) >>> ((0 : Int32) &&& 31)).toInt8.toInt32))) 3 (nar .byte (((ar_a1 1) >>> ((8 : Int32) &&& 31)).toInt8.toInt32))) 4 (nar .byte (((ar_a1 2) >>> ((0 : Int32) &&& 31)).toInt8.toInt32))) 5 (nar .byte (((ar_a1 2) >>> ((8 : Int32) &&& 31)).toInt8.toInt32))) 6 (nar .byte (((ar_a1 3) >>> ((0 : Int32) &&& 31)).toInt8.toInt32))) 7 (nar .byte (((ar_a1 3) >>> ((8 : Int32) &&& 31)).toInt8.toInt32))) 3) &&& (255 : Int32)) <<< ((8 : Int32) &&& 31))).toUInt32.toUInt16.toUInt32.toInt32)) := (show (255 : Int32) < own_utf ((updI (updI (updI (updI (updI (updI (updI (updI (fun _ => (0 : Int32)) 0 (nar .byte (((ar_a1 0) >>> ((0 : Int32) &&& 31)).toInt8.toInt32))) 1 (nar .byte (((ar_a1 0) >>> ((8 : Int32) &&& 31)).toInt8.toInt32))) 2 (nar .byte (((ar_a1 1) >>> ((0 : Int32) &&& 31)).toInt8.toInt32))) 3 (nar .byte (((ar_a1 1) >>> ((8 : Int32) &&& 31)).toInt8.toInt32))) 4 (nar .byte (((ar_a1 2) >>> ((0 : Int32) &&& 31)).toInt8.toInt32))) 5 (nar .byte (((ar_a1 2) >>> ((8 : Int32) &&& 31)).toInt8.toInt32))) 6 (nar .byte (((ar_a1 3) >>> ((0 : Int32) &&& 31)).toInt8.toInt32))) 7 (nar .byte (((ar_a1 3) >>> ((8 : Int32) &&& 31)).toInt8.toInt32))) 2) ((updI (updI (updI (updI (updI (updI (updI (updI (fun _ => (0 : Int32)) 0 (nar .byte (((ar_a1 0) >>> ((0 : Int32) &&& 31)).toInt8.toInt32))) 1 (nar .byte (((ar_a1 0) >>> ((8 : Int32) &&& 31)).toInt8.toInt32))) 2 (nar .byte (((ar_a1 1) >>> ((0 : Int32) &&& 31)).toInt8.toInt32))) 3 (nar .byte (((ar_a1 1) >>> ((8 : Int32) &&& 31)).toInt8.toInt32))) 4 (nar .byte (((ar_a1 2) >>> ((0 : Int32) &&& 31)).toInt8.toInt32))) 5 (nar .byte (((ar_a1 2) >>> ((8 : Int32) &&& 31)).toInt8.toInt32))) 6 (nar .byte (((ar_a1 3) >>> ((0 : Int32) &&& 31)).toInt8.toInt32))) 7 (nar .byte (((ar_a1 3) >>> ((8 : Int32) &&& 31)).toInt8.toInt32))) 3) from own_gt (g := (updI (updI (updI (updI (updI (updI (updI (updI (fun _ => (0 : Int32)) 0 (nar .byte (((ar_a1 0) >>> ((0 : Int32) &&& 31)).toInt8.toInt32))) 1 (nar .byte (((ar_a1 0) >>> ((8 : Int32) &&& 31)).toInt8.toInt32))) 2 (nar .byte (((ar_a1 1) >>> ((0 : Int32) &&& 31)).toInt8.toInt32))) 3 (nar .byte (((ar_a1 1) >>> ((8 : Int32) &&& 31)).toInt8.toInt32))) 4 (nar .byte (((ar_a1 2) >>> ((0 : Int32) &&& 31)).toInt8.toInt32))) 5 (nar .byte (((ar_a1 2) >>> ((8 : Int32) &&& 31)).toInt8.toInt32))) 6 (nar .byte (((ar_a1 3) >>> ((0 : Int32) &&& 31)).toInt8.toInt32))) 7 (nar .byte (((ar_a1 3) >>> ((8 : Int32) &&& 31)).toInt8.toInt32)))) (i0 := 2) (i1 := 3) (c := (ar_a1 1)) rfl rfl (hrg 1) hk)
  refine own_icmp_gt X hx hby d7_38 54 41 (by decide) rfl (fun _ => ?_) (fun q => absurd c38 q)
  refine own_aload X hx hby (.ref b23b1b4) d7_54 rfl rfl 56 rfl ?_
  refine own_retA X hx hby hret hlk rfl rfl rfl d7_56 (by decide) (by decide) ?_
  rw [eT]
  exact ⟨b1, b23b1b4, rfl, N, K, sz_b1, sz_b23b1b4, A_b1, E_b1, A_b23b1b4, E_b23b1b4⟩
theorem ef_7_4_2 (a1 : Addr) (m : MethodId) : entryFrame m #[(.ref a1), (.int (0 : Int32)), (.int (4 : Int32))] 6 = mkF m 0 #[.val (.ref a1), .val (.int (0 : Int32)), .val (.int (4 : Int32)), .unset, .unset, .unset] [] := by first | (simp [entryFrame, mkF, argsToLocals, Value.category]; done) | rfl
def Q7_4_2 (Z : State) (a1 : Addr) (ar_a1 : Nat → Int32) (h0 : Heap) (n0 : Nat) (v : Option Value) (h : Heap) (L : List Loc) : Prop := ∃ (b1 : Addr) (b23b1b4 : Addr), v = some (.ref b23b1b4) ∧ Fr n0 L ∧ Keep h0 h [] ∧ h0.size ≤ b1 ∧ h0.size ≤ b23b1b4 ∧ Afi Z h b1 .byte 4 (updI (updI (fun _ => (0 : Int32)) 0 (nar .byte ((ar_a1 0).toInt8.toInt32))) 1 (nar .byte ((ar_a1 1).toInt8.toInt32))) ∧ Exa Z h b1 "[B" ∧ Afi Z h b23b1b4 .byte 8 (updI (updI (updI (updI (updI (updI (updI (updI (fun _ => (0 : Int32)) 0 (nar .byte (((ar_a1 0) >>> ((0 : Int32) &&& 31)).toInt8.toInt32))) 1 (nar .byte (((ar_a1 0) >>> ((8 : Int32) &&& 31)).toInt8.toInt32))) 2 (nar .byte (((ar_a1 1) >>> ((0 : Int32) &&& 31)).toInt8.toInt32))) 3 (nar .byte (((ar_a1 1) >>> ((8 : Int32) &&& 31)).toInt8.toInt32))) 4 (nar .byte (((ar_a1 2) >>> ((0 : Int32) &&& 31)).toInt8.toInt32))) 5 (nar .byte (((ar_a1 2) >>> ((8 : Int32) &&& 31)).toInt8.toInt32))) 6 (nar .byte (((ar_a1 3) >>> ((0 : Int32) &&& 31)).toInt8.toInt32))) 7 (nar .byte (((ar_a1 3) >>> ((8 : Int32) &&& 31)).toInt8.toInt32))) ∧ Exa Z h b23b1b4 "[B"
set_option maxRecDepth 65536 in
set_option maxHeartbeats 40000000 in
theorem rm7_4_2 (l : Launch) (Z : State) (a0 : Array Value) (hw : ∀ d ∈ tables_1, d.before a0 Z = true) (a1 : Addr) (ar_a1 : Nat → Int32) (h0 : Heap) (n0 : Nat) (Zs : n0 ≤ h0.size) (hc0 : ¬ (255 : Int32) < (ar_a1 0)) (hc1 : ¬ (255 : Int32) < (ar_a1 1)) (hk : (255 : Int32) < (ar_a1 2)) (hrg : ∀ i, 0 ≤ (ar_a1 i).toInt ∧ (ar_a1 i).toInt < 65536) (A_a1 : Afi Z h0 a1 .char 4 ar_a1) (E_a1 : Exa Z h0 a1 "[C") (S__assertionsDisabled : Sta Z h0 "java/lang/StringUTF16" "$assertionsDisabled" "Z" (.int (1 : Int32))) (S_HI_BYTE_SHIFT : Sta Z h0 "java/lang/StringUTF16" "HI_BYTE_SHIFT" "I" (.int (0 : Int32))) (S_LO_BYTE_SHIFT : Sta Z h0 "java/lang/StringUTF16" "LO_BYTE_SHIFT" "I" (.int (8 : Int32))) (g_a1 : n0 ≤ a1) :
    Met1 l Z (⟨"java/lang/StringUTF16", "compress", "([CII)[B"⟩ : MethodName) jdk_52_method_16_code 6 (some (.array .byte)) ({ frames := 3, cells := 2, slots := 12, locals := 40 } : Room) #[(.ref a1), (.int (0 : Int32)), (.int (4 : Int32))] h0 (Q7_4_2 Z a1 ar_a1 h0 n0) := by
  refine own_met_of (plainFor_of_name pn_33) (ef_7_4_2 a1) ?_
  intro p e s m below meth c s₁ X hx hby hml hZ hown hnm hret hlk eT
  have hown : s.vm.findClass "java/lang/StringUTF16" = some m.cls := hown
  have N := Fr.nil n0
  have K := Keep.refl h0 []
  refine own_iloadN X hx hby (4 : Int32) d7_0 rfl 1 rfl ?_
  refine own_newarray X hx hby hZ (hw _ (List.mem_of_getElem? (i := 21) rfl)) eT d7_1 (z := (4 : Int32)) (by decide) (n := 4) rfl (cap := 4) (by decide) (by decide) (by decide) (by decide) (ad := "[B") rfl 3 rfl ?_
  intro T1 h1 b1 gb1 X eT Ex A A2
  have g_b1 : n0 ≤ b1 := by rw [gb1]; exact Zs
  have sz_b1 : h0.size ≤ b1 := by rw [gb1]; exact K.1
  have ne_a1_b1 : a1 ≠ b1 := Nat.ne_of_lt (by rw [gb1]; exact A_a1.lt)
  have A_a1 := A_a1.ext Ex
  have E_a1 := E_a1.ext Ex
  have A_b1 : Afi Z h1 b1 .byte 4 (fun _ => (0 : Int32)) := A
  have E_b1 := A2
  have K := K.ext Ex
  have Zs := Nat.le_trans Zs Ex.1
  refine own_astoreN X hx hby d7_3 rfl (l' := #[.val (.ref a1), .val (.int (0 : Int32)), .val (.int (4 : Int32)), .val (.ref b1), .unset, .unset]) rfl 4 rfl ?_
  refine own_aloadN X hx hby (.ref a1) d7_4 rfl rfl 5 rfl ?_
  refine own_iloadN X hx hby (0 : Int32) d7_5 rfl 6 rfl ?_
  refine own_aloadN X hx hby (.ref b1) d7_6 rfl rfl 7 rfl ?_
  refine own_iconst X hx hby (0 : Int32) d7_7 rfl 8 rfl ?_
  refine own_iloadN X hx hby (4 : Int32) d7_8 rfl 9 rfl ?_
  refine own_callS X hx hby hZ (st := []) [(.ref a1), (.int (0 : Int32)), (.ref b1), (.int (0 : Int32)), (.int (4 : Int32))] rfl hown (hw _ (List.mem_of_getElem? (i := 42) rfl)) (hw _ (List.mem_of_getElem? (i := 43) rfl)) (hw _ (List.mem_of_getElem? (i := 40) rfl)) (hw _ (List.mem_of_getElem? (i := 44) rfl)) (by decide) d7_9 (rm8_4_2 l Z a0 hw a1 b1 ar_a1 (fun _ => (0 : Int32)) h1 n0 Zs hc0 hc1 hk A_a1 E_a1 A_b1 E_b1 g_a1 g_b1) eT pd_22 rfl (by rw [hml]; rfl) (by decide) 0 rfl (by decide) (by decide) (by decide) 12 rfl ?_
  intro T9 L9 v9 X hQ
  obtain ⟨h9, eT⟩ : ∃ z, T9.heap = z := ⟨_, rfl⟩
  rw [eT] at hQ
  obtain ⟨rfl, N9, Kc, A_b1, E_b1⟩ := hQ
  have A_a1 := A_a1.keep Kc (ninS ne_a1_b1 nin0)
  have E_a1 := E_a1.keep Kc
  have K := K.trans Kc (allS (Or.inr sz_b1) all0)
  have Zs := Nat.le_trans Zs Kc.1
  have N := Fr.app N N9
  show Go p e below _ T9 (mkF m 12 #[.val (.ref a1), .val (.int (0 : Int32)), .val (.int (4 : Int32)), .val (.ref b1), .unset, .unset] [(.int (2 : Int32))])
  refine own_istore X hx hby d7_12 rfl (l' := #[.val (.ref a1), .val (.int (0 : Int32)), .val (.int (4 : Int32)), .val (.ref b1), .val (.int (2 : Int32)), .unset]) rfl 14 rfl ?_
  refine own_iload X hx hby (2 : Int32) d7_14 rfl 16 rfl ?_
  refine own_iloadN X hx hby (4 : Int32) d7_16 rfl 17 rfl ?_
  have c17 : ¬ (2 : Int32) = (4 : Int32) := by decide
  refine own_icmp_eq X hx hby d7_17 57 20 (by decide) rfl (fun q => absurd q c17) (fun _ => ?_)
  refine own_aloadN X hx hby (.ref a1) d7_20 rfl rfl 21 rfl ?_
  refine own_iloadN X hx hby (0 : Int32) d7_21 rfl 22 rfl ?_
  refine own_iloadN X hx hby (4 : Int32) d7_22 rfl 23 rfl ?_
  refine own_callS X hx hby hZ (st := []) [(.ref a1), (.int (0 : Int32)), (.int (4 : Int32))] rfl hown (hw _ (List.mem_of_getElem? (i := 115) rfl)) (hw _ (List.mem_of_getElem? (i := 116) rfl)) (hw _ (List.mem_of_getElem? (i := 40) rfl)) (hw _ (List.mem_of_getElem? (i := 117) rfl)) (by decide) d7_23 (rm26_4 l Z a0 hw a1 ar_a1 h9 n0 Zs A_a1 E_a1 (S__assertionsDisabled.ext (own_ext0 K)) (S_HI_BYTE_SHIFT.ext (own_ext0 K)) (S_LO_BYTE_SHIFT.ext (own_ext0 K))) eT pd_20 rfl (by rw [hml]; rfl) (by decide) 0 rfl (by decide) (by decide) (by decide) 26 rfl ?_
  intro T23 L9 v9 X hQ
  obtain ⟨h23, eT⟩ : ∃ z, T23.heap = z := ⟨_, rfl⟩
  rw [eT] at hQ
  have lt_a1 := A_a1.lt
  have lt_b1 := A_b1.lt
  obtain ⟨b23b1b4, rfl, N9, Kc, hs_b23b1b4, A_b23b1b4, E_b23b1b4⟩ := hQ
  have g_b23b1b4 : n0 ≤ b23b1b4 := Nat.le_trans Zs hs_b23b1b4
  have sz_b23b1b4 : h0.size ≤ b23b1b4 := Nat.le_trans K.1 hs_b23b1b4
  have ne_a1_b23b1b4 : a1 ≠ b23b1b4 := Nat.ne_of_lt (Nat.lt_of_lt_of_le lt_a1 hs_b23b1b4)
  have ne_b1_b23b1b4 : b1 ≠ b23b1b4 := Nat.ne_of_lt (Nat.lt_of_lt_of_le lt_b1 hs_b23b1b4)
  have A_a1 := A_a1.keep Kc nin0
  have E_a1 := E_a1.keep Kc
  have A_b1 := A_b1.keep Kc nin0
  have E_b1 := E_b1.keep Kc
  have K := K.trans Kc all0
  have Zs := Nat.le_trans Zs Kc.1
  have N := Fr.app N N9
  show Go p e below _ T23 (mkF m 26 #[.val (.ref a1), .val (.int (0 : Int32)), .val (.int (4 : Int32)), .val (.ref b1), .val (.int (2 : Int32)), .unset] [(.ref b23b1b4)])
  refine own_astore X hx hby d7_26 rfl (l' := #[.val (.ref a1), .val (.int (0 : Int32)), .val (.int (4 : Int32)), .val (.ref b1), .val (.int (2 : Int32)), .val (.ref b23b1b4)]) rfl 28 rfl ?_
  refine own_aload X hx hby (.ref b23b1b4) d7_28 rfl rfl 30 rfl ?_
  refine own_iload X hx hby (2 : Int32) d7_30 rfl 32 rfl ?_
  refine own_callS X hx hby hZ (st := []) [(.ref b23b1b4), (.int (2 : Int32))] rfl hown (hw _ (List.mem_of_getElem? (i := 131) rfl)) (hw _ (List.mem_of_getElem? (i := 132) rfl)) (hw _ (List.mem_of_getElem? (i := 40) rfl)) (hw _ (List.mem_of_getElem? (i := 133) rfl)) (by decide) d7_32 (rm30_2 l Z a0 hw b23b1b4 (updI (updI (updI (updI (updI (updI (updI (updI (fun _ => (0 : Int32)) 0 (nar .byte (((ar_a1 0) >>> ((0 : Int32) &&& 31)).toInt8.toInt32))) 1 (nar .byte (((ar_a1 0) >>> ((8 : Int32) &&& 31)).toInt8.toInt32))) 2 (nar .byte (((ar_a1 1) >>> ((0 : Int32) &&& 31)).toInt8.toInt32))) 3 (nar .byte (((ar_a1 1) >>> ((8 : Int32) &&& 31)).toInt8.toInt32))) 4 (nar .byte (((ar_a1 2) >>> ((0 : Int32) &&& 31)).toInt8.toInt32))) 5 (nar .byte (((ar_a1 2) >>> ((8 : Int32) &&& 31)).toInt8.toInt32))) 6 (nar .byte (((ar_a1 3) >>> ((0 : Int32) &&& 31)).toInt8.toInt32))) 7 (nar .byte (((ar_a1 3) >>> ((8 : Int32) &&& 31)).toInt8.toInt32))) 8 h23 n0 Zs (by decide) (by decide) A_b23b1b4 (S__assertionsDisabled.ext (own_ext0 K)) (S_HI_BYTE_SHIFT.ext (own_ext0 K)) (S_LO_BYTE_SHIFT.ext (own_ext0 K))) eT pd_16 rfl (by rw [hml]; rfl) (by decide) 0 rfl (by decide) (by decide) (by decide) 35 rfl ?_
  intro T32 L9 v9 X hQ
  obtain ⟨rfl, N9, eT⟩ := hQ
  have N := Fr.app N N9
  show Go p e below _ T32 (mkF m 35 #[.val (.ref a1), .val (.int (0 : Int32)), .val (.int (4 : Int32)), .val (.ref b1), .val (.int (2 : Int32)), .val (.ref b23b1b4)] [(.int (nar .char ((((((updI (updI (updI (updI (updI (updI (updI (updI (fun _ => (0 : Int32)) 0 (nar .byte (((ar_a1 0) >>> ((0 : Int32) &&& 31)).toInt8.toInt32))) 1 (nar .byte (((ar_a1 0) >>> ((8 : Int32) &&& 31)).toInt8.toInt32))) 2 (nar .byte (((ar_a1 1) >>> ((0 : Int32) &&& 31)).toInt8.toInt32))) 3 (nar .byte (((ar_a1 1) >>> ((8 : Int32) &&& 31)).toInt8.toInt32))) 4 (nar .byte (((ar_a1 2) >>> ((0 : Int32) &&& 31)).toInt8.toInt32))) 5 (nar .byte (((ar_a1 2) >>> ((8 : Int32) &&& 31)).toInt8.toInt32))) 6 (nar .byte (((ar_a1 3) >>> ((0 : Int32) &&& 31)).toInt8.toInt32))) 7 (nar .byte (((ar_a1 3) >>> ((8 : Int32) &&& 31)).toInt8.toInt32))) 4) &&& (255 : Int32)) <<< ((0 : Int32) &&& 31)) ||| ((((updI (updI (updI (updI (updI (updI (updI (updI (fun _ => (0 : Int32)) 0 (nar .byte (((ar_a1 0) >>> ((0 : Int32) &&& 31)).toInt8.toInt32))) 1 (nar .byte (((ar_a1 0) >>> ((8 : Int32) &&& 31)).toInt8.toInt32))) 2 (nar .byte (((ar_a1 1) >>> ((0 : Int32) &&& 31)).toInt8.toInt32))) 3 (nar .byte (((ar_a1 1) >>> ((8 : Int32) &&& 31)).toInt8.toInt32))) 4 (nar .byte (((ar_a1 2) >>> ((0 : Int32) &&& 31)).toInt8.toInt32))) 5 (nar .byte (((ar_a1 2) >>> ((8 : Int32) &&& 31)).toInt8.toInt32))) 6 (nar .byte (((ar_a1 3) >>> ((0 : Int32) &&& 31)).toInt8.toInt32))) 7 (nar .byte (((ar_a1 3) >>> ((8 : Int32) &&& 31)).toInt8.toInt32))) 5) &&& (255 : Int32)) <<< ((8 : Int32) &&& 31))).toUInt32.toUInt16.toUInt32.toInt32)))])
  refine own_sipush X hx hby (255 : Int32) d7_35 rfl 38 rfl ?_
  have c38 : (255 : Int32) < (nar .char ((((((updI (updI (updI (updI (updI (updI (updI (updI (fun _ => (0 : Int32)) 0 (nar .byte (((ar_a1 0) >>> ((0 : Int32) &&& 31)).toInt8.toInt32))) 1 (nar .byte (((ar_a1 0) >>> ((8 : Int32) &&& 31)).toInt8.toInt32))) 2 (nar .byte (((ar_a1 1) >>> ((0 : Int32) &&& 31)).toInt8.toInt32))) 3 (nar .byte (((ar_a1 1) >>> ((8 : Int32) &&& 31)).toInt8.toInt32))) 4 (nar .byte (((ar_a1 2) >>> ((0 : Int32) &&& 31)).toInt8.toInt32))) 5 (nar .byte (((ar_a1 2) >>> ((8 : Int32) &&& 31)).toInt8.toInt32))) 6 (nar .byte (((ar_a1 3) >>> ((0 : Int32) &&& 31)).toInt8.toInt32))) 7 (nar .byte (((ar_a1 3) >>> ((8 : Int32) &&& 31)).toInt8.toInt32))) 4) &&& (255 : Int32)) <<< ((0 : Int32) &&& 31)) ||| ((((updI (updI (updI (updI (updI (updI (updI (updI (fun _ => (0 : Int32)) 0 (nar .byte (((ar_a1 0) >>> ((0 : Int32) &&& 31)).toInt8.toInt32))) 1 (nar .byte (((ar_a1 0) >>> ((8 : Int32) &&& 31)).toInt8.toInt32))) 2 (nar .byte (((ar_a1 1) >>> ((0 : Int32) &&& 31)).toInt8.toInt32))) 3 (nar .byte (((ar_a1 1) >>> ((8 : Int32) &&& 31)).toInt8.toInt32))) 4 (nar .byte (((ar_a1 2) >>> ((0 : Int32) &&& 31)).toInt8.toInt32))) 5 (nar .byte (((ar_a1 2) >>> ((8 : Int32) &&& 31)).toInt8.toInt32))) 6 (nar .byte (((ar_a1 3) >>> ((0 : Int32) &&& 31)).toInt8.toInt32))) 7 (nar .byte (((ar_a1 3) >>> ((8 : Int32) &&& 31)).toInt8.toInt32))) 5) &&& (255 : Int32)) <<< ((8 : Int32) &&& 31))).toUInt32.toUInt16.toUInt32.toInt32)) := (show (255 : Int32) < own_utf ((updI (updI (updI (updI (updI (updI (updI (updI (fun _ => (0 : Int32)) 0 (nar .byte (((ar_a1 0) >>> ((0 : Int32) &&& 31)).toInt8.toInt32))) 1 (nar .byte (((ar_a1 0) >>> ((8 : Int32) &&& 31)).toInt8.toInt32))) 2 (nar .byte (((ar_a1 1) >>> ((0 : Int32) &&& 31)).toInt8.toInt32))) 3 (nar .byte (((ar_a1 1) >>> ((8 : Int32) &&& 31)).toInt8.toInt32))) 4 (nar .byte (((ar_a1 2) >>> ((0 : Int32) &&& 31)).toInt8.toInt32))) 5 (nar .byte (((ar_a1 2) >>> ((8 : Int32) &&& 31)).toInt8.toInt32))) 6 (nar .byte (((ar_a1 3) >>> ((0 : Int32) &&& 31)).toInt8.toInt32))) 7 (nar .byte (((ar_a1 3) >>> ((8 : Int32) &&& 31)).toInt8.toInt32))) 4) ((updI (updI (updI (updI (updI (updI (updI (updI (fun _ => (0 : Int32)) 0 (nar .byte (((ar_a1 0) >>> ((0 : Int32) &&& 31)).toInt8.toInt32))) 1 (nar .byte (((ar_a1 0) >>> ((8 : Int32) &&& 31)).toInt8.toInt32))) 2 (nar .byte (((ar_a1 1) >>> ((0 : Int32) &&& 31)).toInt8.toInt32))) 3 (nar .byte (((ar_a1 1) >>> ((8 : Int32) &&& 31)).toInt8.toInt32))) 4 (nar .byte (((ar_a1 2) >>> ((0 : Int32) &&& 31)).toInt8.toInt32))) 5 (nar .byte (((ar_a1 2) >>> ((8 : Int32) &&& 31)).toInt8.toInt32))) 6 (nar .byte (((ar_a1 3) >>> ((0 : Int32) &&& 31)).toInt8.toInt32))) 7 (nar .byte (((ar_a1 3) >>> ((8 : Int32) &&& 31)).toInt8.toInt32))) 5) from own_gt (g := (updI (updI (updI (updI (updI (updI (updI (updI (fun _ => (0 : Int32)) 0 (nar .byte (((ar_a1 0) >>> ((0 : Int32) &&& 31)).toInt8.toInt32))) 1 (nar .byte (((ar_a1 0) >>> ((8 : Int32) &&& 31)).toInt8.toInt32))) 2 (nar .byte (((ar_a1 1) >>> ((0 : Int32) &&& 31)).toInt8.toInt32))) 3 (nar .byte (((ar_a1 1) >>> ((8 : Int32) &&& 31)).toInt8.toInt32))) 4 (nar .byte (((ar_a1 2) >>> ((0 : Int32) &&& 31)).toInt8.toInt32))) 5 (nar .byte (((ar_a1 2) >>> ((8 : Int32) &&& 31)).toInt8.toInt32))) 6 (nar .byte (((ar_a1 3) >>> ((0 : Int32) &&& 31)).toInt8.toInt32))) 7 (nar .byte (((ar_a1 3) >>> ((8 : Int32) &&& 31)).toInt8.toInt32)))) (i0 := 4) (i1 := 5) (c := (ar_a1 2)) rfl rfl (hrg 2) hk)
  refine own_icmp_gt X hx hby d7_38 54 41 (by decide) rfl (fun _ => ?_) (fun q => absurd c38 q)
  refine own_aload X hx hby (.ref b23b1b4) d7_54 rfl rfl 56 rfl ?_
  refine own_retA X hx hby hret hlk rfl rfl rfl d7_56 (by decide) (by decide) ?_
  rw [eT]
  exact ⟨b1, b23b1b4, rfl, N, K, sz_b1, sz_b23b1b4, A_b1, E_b1, A_b23b1b4, E_b23b1b4⟩
theorem ef_7_4_3 (a1 : Addr) (m : MethodId) : entryFrame m #[(.ref a1), (.int (0 : Int32)), (.int (4 : Int32))] 6 = mkF m 0 #[.val (.ref a1), .val (.int (0 : Int32)), .val (.int (4 : Int32)), .unset, .unset, .unset] [] := by first | (simp [entryFrame, mkF, argsToLocals, Value.category]; done) | rfl
def Q7_4_3 (Z : State) (a1 : Addr) (ar_a1 : Nat → Int32) (h0 : Heap) (n0 : Nat) (v : Option Value) (h : Heap) (L : List Loc) : Prop := ∃ (b1 : Addr) (b23b1b4 : Addr), v = some (.ref b23b1b4) ∧ Fr n0 L ∧ Keep h0 h [] ∧ h0.size ≤ b1 ∧ h0.size ≤ b23b1b4 ∧ Afi Z h b1 .byte 4 (updI (updI (updI (fun _ => (0 : Int32)) 0 (nar .byte ((ar_a1 0).toInt8.toInt32))) 1 (nar .byte ((ar_a1 1).toInt8.toInt32))) 2 (nar .byte ((ar_a1 2).toInt8.toInt32))) ∧ Exa Z h b1 "[B" ∧ Afi Z h b23b1b4 .byte 8 (updI (updI (updI (updI (updI (updI (updI (updI (fun _ => (0 : Int32)) 0 (nar .byte (((ar_a1 0) >>> ((0 : Int32) &&& 31)).toInt8.toInt32))) 1 (nar .byte (((ar_a1 0) >>> ((8 : Int32) &&& 31)).toInt8.toInt32))) 2 (nar .byte (((ar_a1 1) >>> ((0 : Int32) &&& 31)).toInt8.toInt32))) 3 (nar .byte (((ar_a1 1) >>> ((8 : Int32) &&& 31)).toInt8.toInt32))) 4 (nar .byte (((ar_a1 2) >>> ((0 : Int32) &&& 31)).toInt8.toInt32))) 5 (nar .byte (((ar_a1 2) >>> ((8 : Int32) &&& 31)).toInt8.toInt32))) 6 (nar .byte (((ar_a1 3) >>> ((0 : Int32) &&& 31)).toInt8.toInt32))) 7 (nar .byte (((ar_a1 3) >>> ((8 : Int32) &&& 31)).toInt8.toInt32))) ∧ Exa Z h b23b1b4 "[B"
set_option maxRecDepth 65536 in
set_option maxHeartbeats 40000000 in
theorem rm7_4_3 (l : Launch) (Z : State) (a0 : Array Value) (hw : ∀ d ∈ tables_1, d.before a0 Z = true) (a1 : Addr) (ar_a1 : Nat → Int32) (h0 : Heap) (n0 : Nat) (Zs : n0 ≤ h0.size) (hc0 : ¬ (255 : Int32) < (ar_a1 0)) (hc1 : ¬ (255 : Int32) < (ar_a1 1)) (hc2 : ¬ (255 : Int32) < (ar_a1 2)) (hk : (255 : Int32) < (ar_a1 3)) (hrg : ∀ i, 0 ≤ (ar_a1 i).toInt ∧ (ar_a1 i).toInt < 65536) (A_a1 : Afi Z h0 a1 .char 4 ar_a1) (E_a1 : Exa Z h0 a1 "[C") (S__assertionsDisabled : Sta Z h0 "java/lang/StringUTF16" "$assertionsDisabled" "Z" (.int (1 : Int32))) (S_HI_BYTE_SHIFT : Sta Z h0 "java/lang/StringUTF16" "HI_BYTE_SHIFT" "I" (.int (0 : Int32))) (S_LO_BYTE_SHIFT : Sta Z h0 "java/lang/StringUTF16" "LO_BYTE_SHIFT" "I" (.int (8 : Int32))) (g_a1 : n0 ≤ a1) :
    Met1 l Z (⟨"java/lang/StringUTF16", "compress", "([CII)[B"⟩ : MethodName) jdk_52_method_16_code 6 (some (.array .byte)) ({ frames := 3, cells := 2, slots := 12, locals := 40 } : Room) #[(.ref a1), (.int (0 : Int32)), (.int (4 : Int32))] h0 (Q7_4_3 Z a1 ar_a1 h0 n0) := by
  refine own_met_of (plainFor_of_name pn_33) (ef_7_4_3 a1) ?_
  intro p e s m below meth c s₁ X hx hby hml hZ hown hnm hret hlk eT
  have hown : s.vm.findClass "java/lang/StringUTF16" = some m.cls := hown
  have N := Fr.nil n0
  have K := Keep.refl h0 []
  refine own_iloadN X hx hby (4 : Int32) d7_0 rfl 1 rfl ?_
  refine own_newarray X hx hby hZ (hw _ (List.mem_of_getElem? (i := 21) rfl)) eT d7_1 (z := (4 : Int32)) (by decide) (n := 4) rfl (cap := 4) (by decide) (by decide) (by decide) (by decide) (ad := "[B") rfl 3 rfl ?_
  intro T1 h1 b1 gb1 X eT Ex A A2
  have g_b1 : n0 ≤ b1 := by rw [gb1]; exact Zs
  have sz_b1 : h0.size ≤ b1 := by rw [gb1]; exact K.1
  have ne_a1_b1 : a1 ≠ b1 := Nat.ne_of_lt (by rw [gb1]; exact A_a1.lt)
  have A_a1 := A_a1.ext Ex
  have E_a1 := E_a1.ext Ex
  have A_b1 : Afi Z h1 b1 .byte 4 (fun _ => (0 : Int32)) := A
  have E_b1 := A2
  have K := K.ext Ex
  have Zs := Nat.le_trans Zs Ex.1
  refine own_astoreN X hx hby d7_3 rfl (l' := #[.val (.ref a1), .val (.int (0 : Int32)), .val (.int (4 : Int32)), .val (.ref b1), .unset, .unset]) rfl 4 rfl ?_
  refine own_aloadN X hx hby (.ref a1) d7_4 rfl rfl 5 rfl ?_
  refine own_iloadN X hx hby (0 : Int32) d7_5 rfl 6 rfl ?_
  refine own_aloadN X hx hby (.ref b1) d7_6 rfl rfl 7 rfl ?_
  refine own_iconst X hx hby (0 : Int32) d7_7 rfl 8 rfl ?_
  refine own_iloadN X hx hby (4 : Int32) d7_8 rfl 9 rfl ?_
  refine own_callS X hx hby hZ (st := []) [(.ref a1), (.int (0 : Int32)), (.ref b1), (.int (0 : Int32)), (.int (4 : Int32))] rfl hown (hw _ (List.mem_of_getElem? (i := 42) rfl)) (hw _ (List.mem_of_getElem? (i := 43) rfl)) (hw _ (List.mem_of_getElem? (i := 40) rfl)) (hw _ (List.mem_of_getElem? (i := 44) rfl)) (by decide) d7_9 (rm8_4_3 l Z a0 hw a1 b1 ar_a1 (fun _ => (0 : Int32)) h1 n0 Zs hc0 hc1 hc2 hk A_a1 E_a1 A_b1 E_b1 g_a1 g_b1) eT pd_22 rfl (by rw [hml]; rfl) (by decide) 0 rfl (by decide) (by decide) (by decide) 12 rfl ?_
  intro T9 L9 v9 X hQ
  obtain ⟨h9, eT⟩ : ∃ z, T9.heap = z := ⟨_, rfl⟩
  rw [eT] at hQ
  obtain ⟨rfl, N9, Kc, A_b1, E_b1⟩ := hQ
  have A_a1 := A_a1.keep Kc (ninS ne_a1_b1 nin0)
  have E_a1 := E_a1.keep Kc
  have K := K.trans Kc (allS (Or.inr sz_b1) all0)
  have Zs := Nat.le_trans Zs Kc.1
  have N := Fr.app N N9
  show Go p e below _ T9 (mkF m 12 #[.val (.ref a1), .val (.int (0 : Int32)), .val (.int (4 : Int32)), .val (.ref b1), .unset, .unset] [(.int (3 : Int32))])
  refine own_istore X hx hby d7_12 rfl (l' := #[.val (.ref a1), .val (.int (0 : Int32)), .val (.int (4 : Int32)), .val (.ref b1), .val (.int (3 : Int32)), .unset]) rfl 14 rfl ?_
  refine own_iload X hx hby (3 : Int32) d7_14 rfl 16 rfl ?_
  refine own_iloadN X hx hby (4 : Int32) d7_16 rfl 17 rfl ?_
  have c17 : ¬ (3 : Int32) = (4 : Int32) := by decide
  refine own_icmp_eq X hx hby d7_17 57 20 (by decide) rfl (fun q => absurd q c17) (fun _ => ?_)
  refine own_aloadN X hx hby (.ref a1) d7_20 rfl rfl 21 rfl ?_
  refine own_iloadN X hx hby (0 : Int32) d7_21 rfl 22 rfl ?_
  refine own_iloadN X hx hby (4 : Int32) d7_22 rfl 23 rfl ?_
  refine own_callS X hx hby hZ (st := []) [(.ref a1), (.int (0 : Int32)), (.int (4 : Int32))] rfl hown (hw _ (List.mem_of_getElem? (i := 115) rfl)) (hw _ (List.mem_of_getElem? (i := 116) rfl)) (hw _ (List.mem_of_getElem? (i := 40) rfl)) (hw _ (List.mem_of_getElem? (i := 117) rfl)) (by decide) d7_23 (rm26_4 l Z a0 hw a1 ar_a1 h9 n0 Zs A_a1 E_a1 (S__assertionsDisabled.ext (own_ext0 K)) (S_HI_BYTE_SHIFT.ext (own_ext0 K)) (S_LO_BYTE_SHIFT.ext (own_ext0 K))) eT pd_20 rfl (by rw [hml]; rfl) (by decide) 0 rfl (by decide) (by decide) (by decide) 26 rfl ?_
  intro T23 L9 v9 X hQ
  obtain ⟨h23, eT⟩ : ∃ z, T23.heap = z := ⟨_, rfl⟩
  rw [eT] at hQ
  have lt_a1 := A_a1.lt
  have lt_b1 := A_b1.lt
  obtain ⟨b23b1b4, rfl, N9, Kc, hs_b23b1b4, A_b23b1b4, E_b23b1b4⟩ := hQ
  have g_b23b1b4 : n0 ≤ b23b1b4 := Nat.le_trans Zs hs_b23b1b4
  have sz_b23b1b4 : h0.size ≤ b23b1b4 := Nat.le_trans K.1 hs_b23b1b4
  have ne_a1_b23b1b4 : a1 ≠ b23b1b4 := Nat.ne_of_lt (Nat.lt_of_lt_of_le lt_a1 hs_b23b1b4)
  have ne_b1_b23b1b4 : b1 ≠ b23b1b4 := Nat.ne_of_lt (Nat.lt_of_lt_of_le lt_b1 hs_b23b1b4)
  have A_a1 := A_a1.keep Kc nin0
  have E_a1 := E_a1.keep Kc
  have A_b1 := A_b1.keep Kc nin0
  have E_b1 := E_b1.keep Kc
  have K := K.trans Kc all0
  have Zs := Nat.le_trans Zs Kc.1
  have N := Fr.app N N9
  show Go p e below _ T23 (mkF m 26 #[.val (.ref a1), .val (.int (0 : Int32)), .val (.int (4 : Int32)), .val (.ref b1), .val (.int (3 : Int32)), .unset] [(.ref b23b1b4)])
  refine own_astore X hx hby d7_26 rfl (l' := #[.val (.ref a1), .val (.int (0 : Int32)), .val (.int (4 : Int32)), .val (.ref b1), .val (.int (3 : Int32)), .val (.ref b23b1b4)]) rfl 28 rfl ?_
  refine own_aload X hx hby (.ref b23b1b4) d7_28 rfl rfl 30 rfl ?_
  refine own_iload X hx hby (3 : Int32) d7_30 rfl 32 rfl ?_
  refine own_callS X hx hby hZ (st := []) [(.ref b23b1b4), (.int (3 : Int32))] rfl hown (hw _ (List.mem_of_getElem? (i := 131) rfl)) (hw _ (List.mem_of_getElem? (i := 132) rfl)) (hw _ (List.mem_of_getElem? (i := 40) rfl)) (hw _ (List.mem_of_getElem? (i := 133) rfl)) (by decide) d7_32 (rm30_3 l Z a0 hw b23b1b4 (updI (updI (updI (updI (updI (updI (updI (updI (fun _ => (0 : Int32)) 0 (nar .byte (((ar_a1 0) >>> ((0 : Int32) &&& 31)).toInt8.toInt32))) 1 (nar .byte (((ar_a1 0) >>> ((8 : Int32) &&& 31)).toInt8.toInt32))) 2 (nar .byte (((ar_a1 1) >>> ((0 : Int32) &&& 31)).toInt8.toInt32))) 3 (nar .byte (((ar_a1 1) >>> ((8 : Int32) &&& 31)).toInt8.toInt32))) 4 (nar .byte (((ar_a1 2) >>> ((0 : Int32) &&& 31)).toInt8.toInt32))) 5 (nar .byte (((ar_a1 2) >>> ((8 : Int32) &&& 31)).toInt8.toInt32))) 6 (nar .byte (((ar_a1 3) >>> ((0 : Int32) &&& 31)).toInt8.toInt32))) 7 (nar .byte (((ar_a1 3) >>> ((8 : Int32) &&& 31)).toInt8.toInt32))) 8 h23 n0 Zs (by decide) (by decide) A_b23b1b4 (S__assertionsDisabled.ext (own_ext0 K)) (S_HI_BYTE_SHIFT.ext (own_ext0 K)) (S_LO_BYTE_SHIFT.ext (own_ext0 K))) eT pd_16 rfl (by rw [hml]; rfl) (by decide) 0 rfl (by decide) (by decide) (by decide) 35 rfl ?_
  intro T32 L9 v9 X hQ
  obtain ⟨rfl, N9, eT⟩ := hQ
  have N := Fr.app N N9
  show Go p e below _ T32 (mkF m 35 #[.val (.ref a1), .val (.int (0 : Int32)), .val (.int (4 : Int32)), .val (.ref b1), .val (.int (3 : Int32)), .val (.ref b23b1b4)] [(.int (nar .char ((((((updI (updI (updI (updI (updI (updI (updI (updI (fun _ => (0 : Int32)) 0 (nar .byte (((ar_a1 0) >>> ((0 : Int32) &&& 31)).toInt8.toInt32))) 1 (nar .byte (((ar_a1 0) >>> ((8 : Int32) &&& 31)).toInt8.toInt32))) 2 (nar .byte (((ar_a1 1) >>> ((0 : Int32) &&& 31)).toInt8.toInt32))) 3 (nar .byte (((ar_a1 1) >>> ((8 : Int32) &&& 31)).toInt8.toInt32))) 4 (nar .byte (((ar_a1 2) >>> ((0 : Int32) &&& 31)).toInt8.toInt32))) 5 (nar .byte (((ar_a1 2) >>> ((8 : Int32) &&& 31)).toInt8.toInt32))) 6 (nar .byte (((ar_a1 3) >>> ((0 : Int32) &&& 31)).toInt8.toInt32))) 7 (nar .byte (((ar_a1 3) >>> ((8 : Int32) &&& 31)).toInt8.toInt32))) 6) &&& (255 : Int32)) <<< ((0 : Int32) &&& 31)) ||| ((((updI (updI (updI (updI (updI (updI (updI (updI (fun _ => (0 : Int32)) 0 (nar .byte (((ar_a1 0) >>> ((0 : Int32) &&& 31)).toInt8.toInt32))) 1 (nar .byte (((ar_a1 0) >>> ((8 : Int32) &&& 31)).toInt8.toInt32))) 2 (nar .byte (((ar_a1 1) >>> ((0 : Int32) &&& 31)).toInt8.toInt32))) 3 (nar .byte (((ar_a1 1) >>> ((8 : Int32) &&& 31)).toInt8.toInt32))) 4 (nar .byte (((ar_a1 2) >>> ((0 : Int32) &&& 31)).toInt8.toInt32))) 5 (nar .byte (((ar_a1 2) >>> ((8 : Int32) &&& 31)).toInt8.toInt32))) 6 (nar .byte (((ar_a1 3) >>> ((0 : Int32) &&& 31)).toInt8.toInt32))) 7 (nar .byte (((ar_a1 3) >>> ((8 : Int32) &&& 31)).toInt8.toInt32))) 7) &&& (255 : Int32)) <<< ((8 : Int32) &&& 31))).toUInt32.toUInt16.toUInt32.toInt32)))])
  refine own_sipush X hx hby (255 : Int32) d7_35 rfl 38 rfl ?_
  have c38 : (255 : Int32) < (nar .char ((((((updI (updI (updI (updI (updI (updI (updI (updI (fun _ => (0 : Int32)) 0 (nar .byte (((ar_a1 0) >>> ((0 : Int32) &&& 31)).toInt8.toInt32))) 1 (nar .byte (((ar_a1 0) >>> ((8 : Int32) &&& 31)).toInt8.toInt32))) 2 (nar .byte (((ar_a1 1) >>> ((0 : Int32) &&& 31)).toInt8.toInt32))) 3 (nar .byte (((ar_a1 1) >>> ((8 : Int32) &&& 31)).toInt8.toInt32))) 4 (nar .byte (((ar_a1 2) >>> ((0 : Int32) &&& 31)).toInt8.toInt32))) 5 (nar .byte (((ar_a1 2) >>> ((8 : Int32) &&& 31)).toInt8.toInt32))) 6 (nar .byte (((ar_a1 3) >>> ((0 : Int32) &&& 31)).toInt8.toInt32))) 7 (nar .byte (((ar_a1 3) >>> ((8 : Int32) &&& 31)).toInt8.toInt32))) 6) &&& (255 : Int32)) <<< ((0 : Int32) &&& 31)) ||| ((((updI (updI (updI (updI (updI (updI (updI (updI (fun _ => (0 : Int32)) 0 (nar .byte (((ar_a1 0) >>> ((0 : Int32) &&& 31)).toInt8.toInt32))) 1 (nar .byte (((ar_a1 0) >>> ((8 : Int32) &&& 31)).toInt8.toInt32))) 2 (nar .byte (((ar_a1 1) >>> ((0 : Int32) &&& 31)).toInt8.toInt32))) 3 (nar .byte (((ar_a1 1) >>> ((8 : Int32) &&& 31)).toInt8.toInt32))) 4 (nar .byte (((ar_a1 2) >>> ((0 : Int32) &&& 31)).toInt8.toInt32))) 5 (nar .byte (((ar_a1 2) >>> ((8 : Int32) &&& 31)).toInt8.toInt32))) 6 (nar .byte (((ar_a1 3) >>> ((0 : Int32) &&& 31)).toInt8.toInt32))) 7 (nar .byte (((ar_a1 3) >>> ((8 : Int32) &&& 31)).toInt8.toInt32))) 7) &&& (255 : Int32)) <<< ((8 : Int32) &&& 31))).toUInt32.toUInt16.toUInt32.toInt32)) := (show (255 : Int32) < own_utf ((updI (updI (updI (updI (updI (updI (updI (updI (fun _ => (0 : Int32)) 0 (nar .byte (((ar_a1 0) >>> ((0 : Int32) &&& 31)).toInt8.toInt32))) 1 (nar .byte (((ar_a1 0) >>> ((8 : Int32) &&& 31)).toInt8.toInt32))) 2 (nar .byte (((ar_a1 1) >>> ((0 : Int32) &&& 31)).toInt8.toInt32))) 3 (nar .byte (((ar_a1 1) >>> ((8 : Int32) &&& 31)).toInt8.toInt32))) 4 (nar .byte (((ar_a1 2) >>> ((0 : Int32) &&& 31)).toInt8.toInt32))) 5 (nar .byte (((ar_a1 2) >>> ((8 : Int32) &&& 31)).toInt8.toInt32))) 6 (nar .byte (((ar_a1 3) >>> ((0 : Int32) &&& 31)).toInt8.toInt32))) 7 (nar .byte (((ar_a1 3) >>> ((8 : Int32) &&& 31)).toInt8.toInt32))) 6) ((updI (updI (updI (updI (updI (updI (updI (updI (fun _ => (0 : Int32)) 0 (nar .byte (((ar_a1 0) >>> ((0 : Int32) &&& 31)).toInt8.toInt32))) 1 (nar .byte (((ar_a1 0) >>> ((8 : Int32) &&& 31)).toInt8.toInt32))) 2 (nar .byte (((ar_a1 1) >>> ((0 : Int32) &&& 31)).toInt8.toInt32))) 3 (nar .byte (((ar_a1 1) >>> ((8 : Int32) &&& 31)).toInt8.toInt32))) 4 (nar .byte (((ar_a1 2) >>> ((0 : Int32) &&& 31)).toInt8.toInt32))) 5 (nar .byte (((ar_a1 2) >>> ((8 : Int32) &&& 31)).toInt8.toInt32))) 6 (nar .byte (((ar_a1 3) >>> ((0 : Int32) &&& 31)).toInt8.toInt32))) 7 (nar .byte (((ar_a1 3) >>> ((8 : Int32) &&& 31)).toInt8.toInt32))) 7) from own_gt (g := (updI (updI (updI (updI (updI (updI (updI (updI (fun _ => (0 : Int32)) 0 (nar .byte (((ar_a1 0) >>> ((0 : Int32) &&& 31)).toInt8.toInt32))) 1 (nar .byte (((ar_a1 0) >>> ((8 : Int32) &&& 31)).toInt8.toInt32))) 2 (nar .byte (((ar_a1 1) >>> ((0 : Int32) &&& 31)).toInt8.toInt32))) 3 (nar .byte (((ar_a1 1) >>> ((8 : Int32) &&& 31)).toInt8.toInt32))) 4 (nar .byte (((ar_a1 2) >>> ((0 : Int32) &&& 31)).toInt8.toInt32))) 5 (nar .byte (((ar_a1 2) >>> ((8 : Int32) &&& 31)).toInt8.toInt32))) 6 (nar .byte (((ar_a1 3) >>> ((0 : Int32) &&& 31)).toInt8.toInt32))) 7 (nar .byte (((ar_a1 3) >>> ((8 : Int32) &&& 31)).toInt8.toInt32)))) (i0 := 6) (i1 := 7) (c := (ar_a1 3)) rfl rfl (hrg 3) hk)
  refine own_icmp_gt X hx hby d7_38 54 41 (by decide) rfl (fun _ => ?_) (fun q => absurd c38 q)
  refine own_aload X hx hby (.ref b23b1b4) d7_54 rfl rfl 56 rfl ?_
  refine own_retA X hx hby hret hlk rfl rfl rfl d7_56 (by decide) (by decide) ?_
  rw [eT]
  exact ⟨b1, b23b1b4, rfl, N, K, sz_b1, sz_b23b1b4, A_b1, E_b1, A_b23b1b4, E_b23b1b4⟩
theorem ef_7_4_4 (a1 : Addr) (m : MethodId) : entryFrame m #[(.ref a1), (.int (0 : Int32)), (.int (4 : Int32))] 6 = mkF m 0 #[.val (.ref a1), .val (.int (0 : Int32)), .val (.int (4 : Int32)), .unset, .unset, .unset] [] := by first | (simp [entryFrame, mkF, argsToLocals, Value.category]; done) | rfl
def Q7_4_4 (Z : State) (a1 : Addr) (ar_a1 : Nat → Int32) (h0 : Heap) (n0 : Nat) (v : Option Value) (h : Heap) (L : List Loc) : Prop := ∃ (b1 : Addr), v = some (.ref b1) ∧ Fr n0 L ∧ Keep h0 h [] ∧ h0.size ≤ b1 ∧ Afi Z h b1 .byte 4 (updI (updI (updI (updI (fun _ => (0 : Int32)) 0 (nar .byte ((ar_a1 0).toInt8.toInt32))) 1 (nar .byte ((ar_a1 1).toInt8.toInt32))) 2 (nar .byte ((ar_a1 2).toInt8.toInt32))) 3 (nar .byte ((ar_a1 3).toInt8.toInt32))) ∧ Exa Z h b1 "[B"
set_option maxRecDepth 65536 in
set_option maxHeartbeats 40000000 in
theorem rm7_4_4 (l : Launch) (Z : State) (a0 : Array Value) (hw : ∀ d ∈ tables_1, d.before a0 Z = true) (a1 : Addr) (ar_a1 : Nat → Int32) (h0 : Heap) (n0 : Nat) (Zs : n0 ≤ h0.size) (hc0 : ¬ (255 : Int32) < (ar_a1 0)) (hc1 : ¬ (255 : Int32) < (ar_a1 1)) (hc2 : ¬ (255 : Int32) < (ar_a1 2)) (hc3 : ¬ (255 : Int32) < (ar_a1 3)) (A_a1 : Afi Z h0 a1 .char 4 ar_a1) (E_a1 : Exa Z h0 a1 "[C") (g_a1 : n0 ≤ a1) :
    Met1 l Z (⟨"java/lang/StringUTF16", "compress", "([CII)[B"⟩ : MethodName) jdk_52_method_16_code 6 (some (.array .byte)) ({ frames := 1, cells := 1, slots := 4, locals := 18 } : Room) #[(.ref a1), (.int (0 : Int32)), (.int (4 : Int32))] h0 (Q7_4_4 Z a1 ar_a1 h0 n0) := by
  refine own_met_of (plainFor_of_name pn_33) (ef_7_4_4 a1) ?_
  intro p e s m below meth c s₁ X hx hby hml hZ hown hnm hret hlk eT
  have hown : s.vm.findClass "java/lang/StringUTF16" = some m.cls := hown
  have N := Fr.nil n0
  have K := Keep.refl h0 []
  refine own_iloadN X hx hby (4 : Int32) d7_0 rfl 1 rfl ?_
  refine own_newarray X hx hby hZ (hw _ (List.mem_of_getElem? (i := 21) rfl)) eT d7_1 (z := (4 : Int32)) (by decide) (n := 4) rfl (cap := 4) (by decide) (by decide) (by decide) (by decide) (ad := "[B") rfl 3 rfl ?_
  intro T1 h1 b1 gb1 X eT Ex A A2
  have g_b1 : n0 ≤ b1 := by rw [gb1]; exact Zs
  have sz_b1 : h0.size ≤ b1 := by rw [gb1]; exact K.1
  have ne_a1_b1 : a1 ≠ b1 := Nat.ne_of_lt (by rw [gb1]; exact A_a1.lt)
  have A_a1 := A_a1.ext Ex
  have E_a1 := E_a1.ext Ex
  have A_b1 : Afi Z h1 b1 .byte 4 (fun _ => (0 : Int32)) := A
  have E_b1 := A2
  have K := K.ext Ex
  have Zs := Nat.le_trans Zs Ex.1
  refine own_astoreN X hx hby d7_3 rfl (l' := #[.val (.ref a1), .val (.int (0 : Int32)), .val (.int (4 : Int32)), .val (.ref b1), .unset, .unset]) rfl 4 rfl ?_
  refine own_aloadN X hx hby (.ref a1) d7_4 rfl rfl 5 rfl ?_
  refine own_iloadN X hx hby (0 : Int32) d7_5 rfl 6 rfl ?_
  refine own_aloadN X hx hby (.ref b1) d7_6 rfl rfl 7 rfl ?_
  refine own_iconst X hx hby (0 : Int32) d7_7 rfl 8 rfl ?_
  refine own_iloadN X hx hby (4 : Int32) d7_8 rfl 9 rfl ?_
  refine own_callS X hx hby hZ (st := []) [(.ref a1), (.int (0 : Int32)), (.ref b1), (.int (0 : Int32)), (.int (4 : Int32))] rfl hown (hw _ (List.mem_of_getElem? (i := 42) rfl)) (hw _ (List.mem_of_getElem? (i := 43) rfl)) (hw _ (List.mem_of_getElem? (i := 40) rfl)) (hw _ (List.mem_of_getElem? (i := 44) rfl)) (by decide) d7_9 (rm8_4_4 l Z a0 hw a1 b1 ar_a1 (fun _ => (0 : Int32)) h1 n0 Zs hc0 hc1 hc2 hc3 A_a1 E_a1 A_b1 E_b1 g_a1 g_b1) eT pd_22 rfl (by rw [hml]; rfl) (by decide) 0 rfl (by decide) (by decide) (by decide) 12 rfl ?_
  intro T9 L9 v9 X hQ
  obtain ⟨h9, eT⟩ : ∃ z, T9.heap = z := ⟨_, rfl⟩
  rw [eT] at hQ
  obtain ⟨rfl, N9, Kc, A_b1, E_b1⟩ := hQ
  have A_a1 := A_a1.keep Kc (ninS ne_a1_b1 nin0)
  have E_a1 := E_a1.keep Kc
  have K := K.trans Kc (allS (Or.inr sz_b1) all0)
  have Zs := Nat.le_trans Zs Kc.1
  have N := Fr.app N N9
  show Go p e below _ T9 (mkF m 12 #[.val (.ref a1), .val (.int (0 : Int32)), .val (.int (4 : Int32)), .val (.ref b1), .unset, .unset] [(.int (4 : Int32))])
  refine own_istore X hx hby d7_12 rfl (l' := #[.val (.ref a1), .val (.int (0 : Int32)), .val (.int (4 : Int32)), .val (.ref b1), .val (.int (4 : Int32)), .unset]) rfl 14 rfl ?_
  refine own_iload X hx hby (4 : Int32) d7_14 rfl 16 rfl ?_
  refine own_iloadN X hx hby (4 : Int32) d7_16 rfl 17 rfl ?_
  have c17 : (4 : Int32) = (4 : Int32) := by decide
  refine own_icmp_eq X hx hby d7_17 57 20 (by decide) rfl (fun _ => ?_) (fun q => absurd c17 q)
  refine own_aloadN X hx hby (.ref b1) d7_57 rfl rfl 58 rfl ?_
  refine own_retA X hx hby hret hlk rfl rfl rfl d7_58 (by decide) (by decide) ?_
  rw [eT]
  exact ⟨b1, rfl, N, K, sz_b1, A_b1, E_b1⟩
theorem ef_3_1 (a1 : Addr) (a2 : Addr) (m : MethodId) : entryFrame m #[(.ref a1), (.ref a2), (.int (0 : Int32)), (.int (1 : Int32)), .null] 6 = mkF m 0 #[.val (.ref a1), .val (.ref a2), .val (.int (0 : Int32)), .val (.int (1 : Int32)), .val .null, .unset] [] := by first | (simp [entryFrame, mkF, argsToLocals, Value.category]; done) | rfl
def Q3_1 (Z : State) (a1 : Addr) (a2 : Addr) (ar_a2 : Nat → Int32) (w_value_a1 : Value) (w_coder_a1 : Int32) (u_COMPACT_STRINGS : Int32) (h0 : Heap) (n0 : Nat) (v : Option Value) (h : Heap) (L : List Loc) : Prop := ∃ (r : Addr) (nb : Nat) (gg : Nat → Int32) (cd : Int32), v = none ∧ Fr n0 L ∧ Keep h0 h [a1] ∧ Exa Z h a1 "java/lang/String" ∧ Fld Z h a1 "java/lang/String" "value" "[B" (.ref r) ∧ Fld Z h a1 "java/lang/String" "coder" "B" (.int cd) ∧ Afi Z h r .byte nb gg ∧ own_str 1 ar_a2 cd nb gg
set_option maxRecDepth 65536 in
set_option maxHeartbeats 40000000 in
theorem rm3_1 (l : Launch) (Z : State) (a0 : Array Value) (hw : ∀ d ∈ tables_1, d.before a0 Z = true) (a1 : Addr) (a2 : Addr) (ar_a2 : Nat → Int32) (w_value_a1 : Value) (w_coder_a1 : Int32) (u_COMPACT_STRINGS : Int32) (h0 : Heap) (n0 : Nat) (Zs : n0 ≤ h0.size) (hcs : ¬ u_COMPACT_STRINGS = (0 : Int32)) (hrg : ∀ i, 0 ≤ (ar_a2 i).toInt ∧ (ar_a2 i).toInt < 65536) (A_a2 : Afi Z h0 a2 .char 1 ar_a2) (E_a2 : Exa Z h0 a2 "[C") (E_a1 : Exa Z h0 a1 "java/lang/String") (F_value_a1 : Fld Z h0 a1 "java/lang/String" "value" "[B" w_value_a1) (F_coder_a1 : Fld Z h0 a1 "java/lang/String" "coder" "B" (.int w_coder_a1)) (g_a1 : n0 ≤ a1) (S_COMPACT_STRINGS : Sta Z h0 "java/lang/String" "COMPACT_STRINGS" "Z" (.int u_COMPACT_STRINGS)) (S__assertionsDisabled : Sta Z h0 "java/lang/StringUTF16" "$assertionsDisabled" "Z" (.int (1 : Int32))) (S_HI_BYTE_SHIFT : Sta Z h0 "java/lang/StringUTF16" "HI_BYTE_SHIFT" "I" (.int (0 : Int32))) (S_LO_BYTE_SHIFT : Sta Z h0 "java/lang/StringUTF16" "LO_BYTE_SHIFT" "I" (.int (8 : Int32))) (g_a2 : n0 ≤ a2) (g_a2 : n0 ≤ a2) :
    Met1 l Z (⟨"java/lang/String", "<init>", "([CIILjava/lang/Void;)V"⟩ : MethodName) jdk_42_method_149_code 6 none ({ frames := 4, cells := 2, slots := 3, locals := 57 } : Room) #[(.ref a1), (.ref a2), (.int (0 : Int32)), (.int (1 : Int32)), .null] h0 (Q3_1 Z a1 a2 ar_a2 w_value_a1 w_coder_a1 u_COMPACT_STRINGS h0 n0) := by
  refine own_met_of (plainFor_of_name pn_12) (ef_3_1 a1 a2) ?_
  intro p e s m below meth c s₁ X hx hby hml hZ hown hnm hret hlk eT
  have hown : s.vm.findClass "java/lang/String" = some m.cls := hown
  have N := Fr.nil n0
  have K := Keep.refl h0 [a1]
  have ne_a2_a1 : a2 ≠ a1 := ne_exa E_a2 E_a1 (by decide)
  refine own_aloadN X hx hby (.ref a1) d3_0 rfl rfl 1 rfl ?_
  refine own_initO X hx hby hZ hown (hw _ (List.mem_of_getElem? (i := 17) rfl)) (hw _ (List.mem_of_getElem? (i := 18) rfl)) (hw _ (List.mem_of_getElem? (i := 19) rfl)) eT (by rw [hml]; rfl) d3_1 (by decide) 0 rfl (by decide) 4 rfl ?_
  intro T1 X eT
  refine own_iloadN X hx hby (1 : Int32) d3_4 rfl 5 rfl ?_
  have c5 : ¬ (1 : Int32) = (0 : Int32) := by decide
  refine own_if_ne X hx hby d3_5 27 8 (by decide) rfl (fun _ => ?_) (fun q => absurd q c5)
  refine own_getS X hx hby hZ hown (host := "") (Or.inl (hw _ (List.mem_of_getElem? (i := 37) rfl))) Via.refl eT S_COMPACT_STRINGS d3_27 30 rfl ?_
  intro T27 X eT
  have c30 : ¬ u_COMPACT_STRINGS = (0 : Int32) := hcs
  refine own_if_eq X hx hby d3_30 58 33 (by decide) rfl (fun q => absurd q c30) (fun _ => ?_)
  refine own_aloadN X hx hby (.ref a2) d3_33 rfl rfl 34 rfl ?_
  refine own_iloadN X hx hby (0 : Int32) d3_34 rfl 35 rfl ?_
  refine own_iloadN X hx hby (1 : Int32) d3_35 rfl 36 rfl ?_
  by_cases hk0 : (255 : Int32) < (ar_a2 0)
  · skip
    refine own_callS X hx hby hZ (st := []) [(.ref a2), (.int (0 : Int32)), (.int (1 : Int32))] rfl hown (hw _ (List.mem_of_getElem? (i := 38) rfl)) (hw _ (List.mem_of_getElem? (i := 39) rfl)) (hw _ (List.mem_of_getElem? (i := 40) rfl)) (hw _ (List.mem_of_getElem? (i := 41) rfl)) (by decide) d3_36 (rm7_1_0 l Z a0 hw a2 ar_a2 h0 n0 Zs hk0 hrg A_a2 E_a2 S__assertionsDisabled S_HI_BYTE_SHIFT S_LO_BYTE_SHIFT g_a2) eT pd_20 rfl (by rw [hml]; rfl) (by decide) 0 rfl (by decide) (by decide) (by decide) 39 rfl ?_
    intro T36 L9 v9 X hQ
    obtain ⟨h36, eT⟩ : ∃ z, T36.heap = z := ⟨_, rfl⟩
    rw [eT] at hQ
    have lt_a1 := E_a1.lt
    have lt_a2 := A_a2.lt
    obtain ⟨b36b1, b36b23b1b4, rfl, N9, Kc, hs_b36b1, hs_b36b23b1b4, A_b36b1, E_b36b1, A_b36b23b1b4, E_b36b23b1b4⟩ := hQ
    have g_b36b1 : n0 ≤ b36b1 := Nat.le_trans Zs hs_b36b1
    have sz_b36b1 : h0.size ≤ b36b1 := Nat.le_trans K.1 hs_b36b1
    have ne_a1_b36b1 : a1 ≠ b36b1 := Nat.ne_of_lt (Nat.lt_of_lt_of_le lt_a1 hs_b36b1)
    have ne_a2_b36b1 : a2 ≠ b36b1 := Nat.ne_of_lt (Nat.lt_of_lt_of_le lt_a2 hs_b36b1)
    have g_b36b23b1b4 : n0 ≤ b36b23b1b4 := Nat.le_trans Zs hs_b36b23b1b4
    have sz_b36b23b1b4 : h0.size ≤ b36b23b1b4 := Nat.le_trans K.1 hs_b36b23b1b4
    have ne_a1_b36b23b1b4 : a1 ≠ b36b23b1b4 := Nat.ne_of_lt (Nat.lt_of_lt_of_le lt_a1 hs_b36b23b1b4)
    have ne_a2_b36b23b1b4 : a2 ≠ b36b23b1b4 := Nat.ne_of_lt (Nat.lt_of_lt_of_le lt_a2 hs_b36b23b1b4)
    have A_a2 := A_a2.keep Kc nin0
    have E_a2 := E_a2.keep Kc
    have E_a1 := E_a1.keep Kc
    have F_value_a1 := F_value_a1.keep Kc nin0
    have F_coder_a1 := F_coder_a1.keep Kc nin0
    have K := K.trans Kc all0
    have Zs := Nat.le_trans Zs Kc.1
    have N := Fr.app N N9
    show Go p e below _ T36 (mkF m 39 #[.val (.ref a1), .val (.ref a2), .val (.int (0 : Int32)), .val (.int (1 : Int32)), .val .null, .unset] [(.ref b36b23b1b4)])
    refine own_astore X hx hby d3_39 rfl (l' := #[.val (.ref a1), .val (.ref a2), .val (.int (0 : Int32)), .val (.int (1 : Int32)), .val .null, .val (.ref b36b23b1b4)]) rfl 41 rfl ?_
    refine own_aloadN X hx hby (.ref a1) d3_41 rfl rfl 42 rfl ?_
    refine own_aload X hx hby (.ref b36b23b1b4) d3_42 rfl rfl 44 rfl ?_
    refine own_iloadN X hx hby (1 : Int32) d3_44 rfl 45 rfl ?_
    refine own_callS X hx hby hZ (st := [(.ref a1)]) [(.ref b36b23b1b4), (.int (1 : Int32))] rfl hown (hw _ (List.mem_of_getElem? (i := 45) rfl)) (hw _ (List.mem_of_getElem? (i := 46) rfl)) (hw _ (List.mem_of_getElem? (i := 40) rfl)) (hw _ (List.mem_of_getElem? (i := 47) rfl)) (by decide) d3_45 (rm9_1_2 l Z a0 hw b36b23b1b4 (updI (updI (fun _ => (0 : Int32)) 0 (nar .byte (((ar_a2 0) >>> ((0 : Int32) &&& 31)).toInt8.toInt32))) 1 (nar .byte (((ar_a2 0) >>> ((8 : Int32) &&& 31)).toInt8.toInt32))) h36 n0 Zs A_b36b23b1b4 E_b36b23b1b4) eT pd_15 rfl (by rw [hml]; rfl) (by decide) 1 rfl (by decide) (by decide) (by decide) 48 rfl ?_
    intro T45 L9 v9 X hQ
    obtain ⟨rfl, N9, eT⟩ := hQ
    have N := Fr.app N N9
    show Go p e below _ T45 (mkF m 48 #[.val (.ref a1), .val (.ref a2), .val (.int (0 : Int32)), .val (.int (1 : Int32)), .val .null, .val (.ref b36b23b1b4)] [(.int (1 : Int32)), (.ref a1)])
    refine own_putFN X hx hby hZ hown (hw _ (List.mem_of_getElem? (i := 27) rfl)) Via.refl eT F_coder_a1 E_a1 (Or.inr ⟨(hw _ (List.mem_of_getElem? (i := 23) rfl)), rfl, hnm⟩) (hw _ (List.mem_of_getElem? (i := 7) rfl)) (ty := .byte) (v' := (.int (nar .byte (1 : Int32)))) (by decide) rfl (fits_nar_byte _) d3_48 51 rfl ?_
    intro T48 h48 X eT W
    have A_a2 := A_a2.other W ne_a2_a1
    have E_a2 := E_a2.wr W
    have E_a1 := E_a1.wr W
    have F_value_a1 := F_value_a1.other W (Or.inr (slot_ne (Or.inr (hw _ (List.mem_of_getElem? (i := 22) rfl))) (Or.inr (hw _ (List.mem_of_getElem? (i := 23) rfl))) (by decide) (t := (.array .byte)) (t' := .byte) (by decide) (by decide)))
    have F_coder_a1 := F_coder_a1.same W
    have A_b36b1 := A_b36b1.other W (Ne.symm ne_a1_b36b1)
    have E_b36b1 := E_b36b1.wr W
    have A_b36b23b1b4 := A_b36b23b1b4.other W (Ne.symm ne_a1_b36b23b1b4)
    have E_b36b23b1b4 := E_b36b23b1b4.wr W
    have N := Fr.snoc X N g_a1
    have K := K.wr W (Or.inl (List.mem_of_getElem? (i := 0) rfl))
    have Zs := Nat.le_trans Zs (Keep.of_wr W).1
    refine own_aloadN X hx hby (.ref a1) d3_51 rfl rfl 52 rfl ?_
    refine own_aload X hx hby (.ref b36b23b1b4) d3_52 rfl rfl 54 rfl ?_
    refine own_putF X hx hby hZ hown (host := "") (Or.inl (hw _ (List.mem_of_getElem? (i := 26) rfl))) Via.refl eT F_value_a1 E_a1 (Or.inr ⟨(hw _ (List.mem_of_getElem? (i := 22) rfl)), rfl, hnm⟩) (hw _ (List.mem_of_getElem? (i := 7) rfl)) (ty := (.array .byte)) (by decide) rfl rfl d3_54 57 rfl ?_
    intro T54 h54 X eT W
    have A_a2 := A_a2.other W ne_a2_a1
    have E_a2 := E_a2.wr W
    have E_a1 := E_a1.wr W
    have F_value_a1 := F_value_a1.same W
    have F_coder_a1 := F_coder_a1.other W (Or.inr (slot_ne (Or.inr (hw _ (List.mem_of_getElem? (i := 23) rfl))) (Or.inr (hw _ (List.mem_of_getElem? (i := 22) rfl))) (by decide) (t := .byte) (t' := (.array .byte)) (by decide) (by decide)))
    have A_b36b1 := A_b36b1.other W (Ne.symm ne_a1_b36b1)
    have E_b36b1 := E_b36b1.wr W
    have A_b36b23b1b4 := A_b36b23b1b4.other W (Ne.symm ne_a1_b36b23b1b4)
    have E_b36b23b1b4 := E_b36b23b1b4.wr W
    have N := Fr.snoc X N g_a1
    have K := K.wr W (Or.inl (List.mem_of_getElem? (i := 0) rfl))
    have Zs := Nat.le_trans Zs (Keep.of_wr W).1
    refine own_ret X hx hby hret hlk d3_57 (by decide) (by decide) ?_
    rw [eT]
    exact ⟨b36b23b1b4, 2, (updI (updI (fun _ => (0 : Int32)) 0 (nar .byte (((ar_a2 0) >>> ((0 : Int32) &&& 31)).toInt8.toInt32))) 1 (nar .byte (((ar_a2 0) >>> ((8 : Int32) &&& 31)).toInt8.toInt32))), (nar .byte (1 : Int32)), rfl, N, K, E_a1, F_value_a1, F_coder_a1, A_b36b23b1b4, Or.inr ⟨by decide, rfl, own_all1 (own_utfE (ar_a2 0) (hrg 0))⟩⟩
  · skip
    refine own_callS X hx hby hZ (st := []) [(.ref a2), (.int (0 : Int32)), (.int (1 : Int32))] rfl hown (hw _ (List.mem_of_getElem? (i := 38) rfl)) (hw _ (List.mem_of_getElem? (i := 39) rfl)) (hw _ (List.mem_of_getElem? (i := 40) rfl)) (hw _ (List.mem_of_getElem? (i := 41) rfl)) (by decide) d3_36 (rm7_1_1 l Z a0 hw a2 ar_a2 h0 n0 Zs hk0 A_a2 E_a2 g_a2) eT pd_20 rfl (by rw [hml]; rfl) (by decide) 0 rfl (by decide) (by decide) (by decide) 39 rfl ?_
    intro T36 L9 v9 X hQ
    obtain ⟨h36, eT⟩ : ∃ z, T36.heap = z := ⟨_, rfl⟩
    rw [eT] at hQ
    have lt_a1 := E_a1.lt
    have lt_a2 := A_a2.lt
    obtain ⟨b36b1, rfl, N9, Kc, hs_b36b1, A_b36b1, E_b36b1⟩ := hQ
    have g_b36b1 : n0 ≤ b36b1 := Nat.le_trans Zs hs_b36b1
    have sz_b36b1 : h0.size ≤ b36b1 := Nat.le_trans K.1 hs_b36b1
    have ne_a1_b36b1 : a1 ≠ b36b1 := Nat.ne_of_lt (Nat.lt_of_lt_of_le lt_a1 hs_b36b1)
    have ne_a2_b36b1 : a2 ≠ b36b1 := Nat.ne_of_lt (Nat.lt_of_lt_of_le lt_a2 hs_b36b1)
    have A_a2 := A_a2.keep Kc nin0
    have E_a2 := E_a2.keep Kc
    have E_a1 := E_a1.keep Kc
    have F_value_a1 := F_value_a1.keep Kc nin0
    have F_coder_a1 := F_coder_a1.keep Kc nin0
    have K := K.trans Kc all0
    have Zs := Nat.le_trans Zs Kc.1
    have N := Fr.app N N9
    show Go p e below _ T36 (mkF m 39 #[.val (.ref a1), .val (.ref a2), .val (.int (0 : Int32)), .val (.int (1 : Int32)), .val .null, .unset] [(.ref b36b1)])
    refine own_astore X hx hby d3_39 rfl (l' := #[.val (.ref a1), .val (.ref a2), .val (.int (0 : Int32)), .val (.int (1 : Int32)), .val .null, .val (.ref b36b1)]) rfl 41 rfl ?_
    refine own_aloadN X hx hby (.ref a1) d3_41 rfl rfl 42 rfl ?_
    refine own_aload X hx hby (.ref b36b1) d3_42 rfl rfl 44 rfl ?_
    refine own_iloadN X hx hby (1 : Int32) d3_44 rfl 45 rfl ?_
    refine own_callS X hx hby hZ (st := [(.ref a1)]) [(.ref b36b1), (.int (1 : Int32))] rfl hown (hw _ (List.mem_of_getElem? (i := 45) rfl)) (hw _ (List.mem_of_getElem? (i := 46) rfl)) (hw _ (List.mem_of_getElem? (i := 40) rfl)) (hw _ (List.mem_of_getElem? (i := 47) rfl)) (by decide) d3_45 (rm9_1_1 l Z a0 hw b36b1 (updI (fun _ => (0 : Int32)) 0 (nar .byte ((ar_a2 0).toInt8.toInt32))) h36 n0 Zs A_b36b1 E_b36b1) eT pd_15 rfl (by rw [hml]; rfl) (by decide) 1 rfl (by decide) (by decide) (by decide) 48 rfl ?_
    intro T45 L9 v9 X hQ
    obtain ⟨rfl, N9, eT⟩ := hQ
    have N := Fr.app N N9
    show Go p e below _ T45 (mkF m 48 #[.val (.ref a1), .val (.ref a2), .val (.int (0 : Int32)), .val (.int (1 : Int32)), .val .null, .val (.ref b36b1)] [(.int (0 : Int32)), (.ref a1)])
    refine own_putFN X hx hby hZ hown (hw _ (List.mem_of_getElem? (i := 27) rfl)) Via.refl eT F_coder_a1 E_a1 (Or.inr ⟨(hw _ (List.mem_of_getElem? (i := 23) rfl)), rfl, hnm⟩) (hw _ (List.mem_of_getElem? (i := 7) rfl)) (ty := .byte) (v' := (.int (nar .byte (0 : Int32)))) (by decide) rfl (fits_nar_byte _) d3_48 51 rfl ?_
    intro T48 h48 X eT W
    have A_a2 := A_a2.other W ne_a2_a1
    have E_a2 := E_a2.wr W
    have E_a1 := E_a1.wr W
    have F_value_a1 := F_value_a1.other W (Or.inr (slot_ne (Or.inr (hw _ (List.mem_of_getElem? (i := 22) rfl))) (Or.inr (hw _ (List.mem_of_getElem? (i := 23) rfl))) (by decide) (t := (.array .byte)) (t' := .byte) (by decide) (by decide)))
    have F_coder_a1 := F_coder_a1.same W
    have A_b36b1 := A_b36b1.other W (Ne.symm ne_a1_b36b1)
    have E_b36b1 := E_b36b1.wr W
    have N := Fr.snoc X N g_a1
    have K := K.wr W (Or.inl (List.mem_of_getElem? (i := 0) rfl))
    have Zs := Nat.le_trans Zs (Keep.of_wr W).1
    refine own_aloadN X hx hby (.ref a1) d3_51 rfl rfl 52 rfl ?_
    refine own_aload X hx hby (.ref b36b1) d3_52 rfl rfl 54 rfl ?_
    refine own_putF X hx hby hZ hown (host := "") (Or.inl (hw _ (List.mem_of_getElem? (i := 26) rfl))) Via.refl eT F_value_a1 E_a1 (Or.inr ⟨(hw _ (List.mem_of_getElem? (i := 22) rfl)), rfl, hnm⟩) (hw _ (List.mem_of_getElem? (i := 7) rfl)) (ty := (.array .byte)) (by decide) rfl rfl d3_54 57 rfl ?_
    intro T54 h54 X eT W
    have A_a2 := A_a2.other W ne_a2_a1
    have E_a2 := E_a2.wr W
    have E_a1 := E_a1.wr W
    have F_value_a1 := F_value_a1.same W
    have F_coder_a1 := F_coder_a1.other W (Or.inr (slot_ne (Or.inr (hw _ (List.mem_of_getElem? (i := 23) rfl))) (Or.inr (hw _ (List.mem_of_getElem? (i := 22) rfl))) (by decide) (t := .byte) (t' := (.array .byte)) (by decide) (by decide)))
    have A_b36b1 := A_b36b1.other W (Ne.symm ne_a1_b36b1)
    have E_b36b1 := E_b36b1.wr W
    have N := Fr.snoc X N g_a1
    have K := K.wr W (Or.inl (List.mem_of_getElem? (i := 0) rfl))
    have Zs := Nat.le_trans Zs (Keep.of_wr W).1
    refine own_ret X hx hby hret hlk d3_57 (by decide) (by decide) ?_
    rw [eT]
    exact ⟨b36b1, 1, (updI (fun _ => (0 : Int32)) 0 (nar .byte ((ar_a2 0).toInt8.toInt32))), (nar .byte (0 : Int32)), rfl, N, K, E_a1, F_value_a1, F_coder_a1, A_b36b1, Or.inl ⟨by decide, rfl, own_all1 (own_latE (ar_a2 0) (hrg 0) hk0)⟩⟩
theorem ef_3_2 (a1 : Addr) (a2 : Addr) (m : MethodId) : entryFrame m #[(.ref a1), (.ref a2), (.int (0 : Int32)), (.int (2 : Int32)), .null] 6 = mkF m 0 #[.val (.ref a1), .val (.ref a2), .val (.int (0 : Int32)), .val (.int (2 : Int32)), .val .null, .unset] [] := by first | (simp [entryFrame, mkF, argsToLocals, Value.category]; done) | rfl
def Q3_2 (Z : State) (a1 : Addr) (a2 : Addr) (ar_a2 : Nat → Int32) (w_value_a1 : Value) (w_coder_a1 : Int32) (u_COMPACT_STRINGS : Int32) (h0 : Heap) (n0 : Nat) (v : Option Value) (h : Heap) (L : List Loc) : Prop := ∃ (r : Addr) (nb : Nat) (gg : Nat → Int32) (cd : Int32), v = none ∧ Fr n0 L ∧ Keep h0 h [a1] ∧ Exa Z h a1 "java/lang/String" ∧ Fld Z h a1 "java/lang/String" "value" "[B" (.ref r) ∧ Fld Z h a1 "java/lang/String" "coder" "B" (.int cd) ∧ Afi Z h r .byte nb gg ∧ own_str 2 ar_a2 cd nb gg
set_option maxRecDepth 65536 in
set_option maxHeartbeats 40000000 in
theorem rm3_2 (l : Launch) (Z : State) (a0 : Array Value) (hw : ∀ d ∈ tables_1, d.before a0 Z = true) (a1 : Addr) (a2 : Addr) (ar_a2 : Nat → Int32) (w_value_a1 : Value) (w_coder_a1 : Int32) (u_COMPACT_STRINGS : Int32) (h0 : Heap) (n0 : Nat) (Zs : n0 ≤ h0.size) (hcs : ¬ u_COMPACT_STRINGS = (0 : Int32)) (hrg : ∀ i, 0 ≤ (ar_a2 i).toInt ∧ (ar_a2 i).toInt < 65536) (A_a2 : Afi Z h0 a2 .char 2 ar_a2) (E_a2 : Exa Z h0 a2 "[C") (E_a1 : Exa Z h0 a1 "java/lang/String") (F_value_a1 : Fld Z h0 a1 "java/lang/String" "value" "[B" w_value_a1) (F_coder_a1 : Fld Z h0 a1 "java/lang/String" "coder" "B" (.int w_coder_a1)) (g_a1 : n0 ≤ a1) (S_COMPACT_STRINGS : Sta Z h0 "java/lang/String" "COMPACT_STRINGS" "Z" (.int u_COMPACT_STRINGS)) (S__assertionsDisabled : Sta Z h0 "java/lang/StringUTF16" "$assertionsDisabled" "Z" (.int (1 : Int32))) (S_HI_BYTE_SHIFT : Sta Z h0 "java/lang/StringUTF16" "HI_BYTE_SHIFT" "I" (.int (0 : Int32))) (S_LO_BYTE_SHIFT : Sta Z h0 "java/lang/StringUTF16" "LO_BYTE_SHIFT" "I" (.int (8 : Int32))) (g_a2 : n0 ≤ a2) (g_a2 : n0 ≤ a2) (g_a2 : n0 ≤ a2) :
    Met1 l Z (⟨"java/lang/String", "<init>", "([CIILjava/lang/Void;)V"⟩ : MethodName) jdk_42_method_149_code 6 none ({ frames := 4, cells := 2, slots := 6, locals := 57 } : Room) #[(.ref a1), (.ref a2), (.int (0 : Int32)), (.int (2 : Int32)), .null] h0 (Q3_2 Z a1 a2 ar_a2 w_value_a1 w_coder_a1 u_COMPACT_STRINGS h0 n0) := by
  refine own_met_of (plainFor_of_name pn_12) (ef_3_2 a1 a2) ?_
  intro p e s m below meth c s₁ X hx hby hml hZ hown hnm hret hlk eT
  have hown : s.vm.findClass "java/lang/String" = some m.cls := hown
  have N := Fr.nil n0
  have K := Keep.refl h0 [a1]
  have ne_a2_a1 : a2 ≠ a1 := ne_exa E_a2 E_a1 (by decide)
  refine own_aloadN X hx hby (.ref a1) d3_0 rfl rfl 1 rfl ?_
  refine own_initO X hx hby hZ hown (hw _ (List.mem_of_getElem? (i := 17) rfl)) (hw _ (List.mem_of_getElem? (i := 18) rfl)) (hw _ (List.mem_of_getElem? (i := 19) rfl)) eT (by rw [hml]; rfl) d3_1 (by decide) 0 rfl (by decide) 4 rfl ?_
  intro T1 X eT
  refine own_iloadN X hx hby (2 : Int32) d3_4 rfl 5 rfl ?_
  have c5 : ¬ (2 : Int32) = (0 : Int32) := by decide
  refine own_if_ne X hx hby d3_5 27 8 (by decide) rfl (fun _ => ?_) (fun q => absurd q c5)
  refine own_getS X hx hby hZ hown (host := "") (Or.inl (hw _ (List.mem_of_getElem? (i := 37) rfl))) Via.refl eT S_COMPACT_STRINGS d3_27 30 rfl ?_
  intro T27 X eT
  have c30 : ¬ u_COMPACT_STRINGS = (0 : Int32) := hcs
  refine own_if_eq X hx hby d3_30 58 33 (by decide) rfl (fun q => absurd q c30) (fun _ => ?_)
  refine own_aloadN X hx hby (.ref a2) d3_33 rfl rfl 34 rfl ?_
  refine own_iloadN X hx hby (0 : Int32) d3_34 rfl 35 rfl ?_
  refine own_iloadN X hx hby (2 : Int32) d3_35 rfl 36 rfl ?_
  by_cases hk0 : (255 : Int32) < (ar_a2 0)
  · skip
    refine own_callS X hx hby hZ (st := []) [(.ref a2), (.int (0 : Int32)), (.int (2 : Int32))] rfl hown (hw _ (List.mem_of_getElem? (i := 38) rfl)) (hw _ (List.mem_of_getElem? (i := 39) rfl)) (hw _ (List.mem_of_getElem? (i := 40) rfl)) (hw _ (List.mem_of_getElem? (i := 41) rfl)) (by decide) d3_36 (rm7_2_0 l Z a0 hw a2 ar_a2 h0 n0 Zs hk0 hrg A_a2 E_a2 S__assertionsDisabled S_HI_BYTE_SHIFT S_LO_BYTE_SHIFT g_a2) eT pd_20 rfl (by rw [hml]; rfl) (by decide) 0 rfl (by decide) (by decide) (by decide) 39 rfl ?_
    intro T36 L9 v9 X hQ
    obtain ⟨h36, eT⟩ : ∃ z, T36.heap = z := ⟨_, rfl⟩
    rw [eT] at hQ
    have lt_a1 := E_a1.lt
    have lt_a2 := A_a2.lt
    obtain ⟨b36b1, b36b23b1b4, rfl, N9, Kc, hs_b36b1, hs_b36b23b1b4, A_b36b1, E_b36b1, A_b36b23b1b4, E_b36b23b1b4⟩ := hQ
    have g_b36b1 : n0 ≤ b36b1 := Nat.le_trans Zs hs_b36b1
    have sz_b36b1 : h0.size ≤ b36b1 := Nat.le_trans K.1 hs_b36b1
    have ne_a1_b36b1 : a1 ≠ b36b1 := Nat.ne_of_lt (Nat.lt_of_lt_of_le lt_a1 hs_b36b1)
    have ne_a2_b36b1 : a2 ≠ b36b1 := Nat.ne_of_lt (Nat.lt_of_lt_of_le lt_a2 hs_b36b1)
    have g_b36b23b1b4 : n0 ≤ b36b23b1b4 := Nat.le_trans Zs hs_b36b23b1b4
    have sz_b36b23b1b4 : h0.size ≤ b36b23b1b4 := Nat.le_trans K.1 hs_b36b23b1b4
    have ne_a1_b36b23b1b4 : a1 ≠ b36b23b1b4 := Nat.ne_of_lt (Nat.lt_of_lt_of_le lt_a1 hs_b36b23b1b4)
    have ne_a2_b36b23b1b4 : a2 ≠ b36b23b1b4 := Nat.ne_of_lt (Nat.lt_of_lt_of_le lt_a2 hs_b36b23b1b4)
    have A_a2 := A_a2.keep Kc nin0
    have E_a2 := E_a2.keep Kc
    have E_a1 := E_a1.keep Kc
    have F_value_a1 := F_value_a1.keep Kc nin0
    have F_coder_a1 := F_coder_a1.keep Kc nin0
    have K := K.trans Kc all0
    have Zs := Nat.le_trans Zs Kc.1
    have N := Fr.app N N9
    show Go p e below _ T36 (mkF m 39 #[.val (.ref a1), .val (.ref a2), .val (.int (0 : Int32)), .val (.int (2 : Int32)), .val .null, .unset] [(.ref b36b23b1b4)])
    refine own_astore X hx hby d3_39 rfl (l' := #[.val (.ref a1), .val (.ref a2), .val (.int (0 : Int32)), .val (.int (2 : Int32)), .val .null, .val (.ref b36b23b1b4)]) rfl 41 rfl ?_
    refine own_aloadN X hx hby (.ref a1) d3_41 rfl rfl 42 rfl ?_
    refine own_aload X hx hby (.ref b36b23b1b4) d3_42 rfl rfl 44 rfl ?_
    refine own_iloadN X hx hby (2 : Int32) d3_44 rfl 45 rfl ?_
    refine own_callS X hx hby hZ (st := [(.ref a1)]) [(.ref b36b23b1b4), (.int (2 : Int32))] rfl hown (hw _ (List.mem_of_getElem? (i := 45) rfl)) (hw _ (List.mem_of_getElem? (i := 46) rfl)) (hw _ (List.mem_of_getElem? (i := 40) rfl)) (hw _ (List.mem_of_getElem? (i := 47) rfl)) (by decide) d3_45 (rm9_2_4 l Z a0 hw b36b23b1b4 (updI (updI (updI (updI (fun _ => (0 : Int32)) 0 (nar .byte (((ar_a2 0) >>> ((0 : Int32) &&& 31)).toInt8.toInt32))) 1 (nar .byte (((ar_a2 0) >>> ((8 : Int32) &&& 31)).toInt8.toInt32))) 2 (nar .byte (((ar_a2 1) >>> ((0 : Int32) &&& 31)).toInt8.toInt32))) 3 (nar .byte (((ar_a2 1) >>> ((8 : Int32) &&& 31)).toInt8.toInt32))) h36 n0 Zs A_b36b23b1b4 E_b36b23b1b4) eT pd_15 rfl (by rw [hml]; rfl) (by decide) 1 rfl (by decide) (by decide) (by decide) 48 rfl ?_
    intro T45 L9 v9 X hQ
    obtain ⟨rfl, N9, eT⟩ := hQ
    have N := Fr.app N N9
    show Go p e below _ T45 (mkF m 48 #[.val (.ref a1), .val (.ref a2), .val (.int (0 : Int32)), .val (.int (2 : Int32)), .val .null, .val (.ref b36b23b1b4)] [(.int (1 : Int32)), (.ref a1)])
    refine own_putFN X hx hby hZ hown (hw _ (List.mem_of_getElem? (i := 27) rfl)) Via.refl eT F_coder_a1 E_a1 (Or.inr ⟨(hw _ (List.mem_of_getElem? (i := 23) rfl)), rfl, hnm⟩) (hw _ (List.mem_of_getElem? (i := 7) rfl)) (ty := .byte) (v' := (.int (nar .byte (1 : Int32)))) (by decide) rfl (fits_nar_byte _) d3_48 51 rfl ?_
    intro T48 h48 X eT W
    have A_a2 := A_a2.other W ne_a2_a1
    have E_a2 := E_a2.wr W
    have E_a1 := E_a1.wr W
    have F_value_a1 := F_value_a1.other W (Or.inr (slot_ne (Or.inr (hw _ (List.mem_of_getElem? (i := 22) rfl))) (Or.inr (hw _ (List.mem_of_getElem? (i := 23) rfl))) (by decide) (t := (.array .byte)) (t' := .byte) (by decide) (by decide)))
    have F_coder_a1 := F_coder_a1.same W
    have A_b36b1 := A_b36b1.other W (Ne.symm ne_a1_b36b1)
    have E_b36b1 := E_b36b1.wr W
    have A_b36b23b1b4 := A_b36b23b1b4.other W (Ne.symm ne_a1_b36b23b1b4)
    have E_b36b23b1b4 := E_b36b23b1b4.wr W
    have N := Fr.snoc X N g_a1
    have K := K.wr W (Or.inl (List.mem_of_getElem? (i := 0) rfl))
    have Zs := Nat.le_trans Zs (Keep.of_wr W).1
    refine own_aloadN X hx hby (.ref a1) d3_51 rfl rfl 52 rfl ?_
    refine own_aload X hx hby (.ref b36b23b1b4) d3_52 rfl rfl 54 rfl ?_
    refine own_putF X hx hby hZ hown (host := "") (Or.inl (hw _ (List.mem_of_getElem? (i := 26) rfl))) Via.refl eT F_value_a1 E_a1 (Or.inr ⟨(hw _ (List.mem_of_getElem? (i := 22) rfl)), rfl, hnm⟩) (hw _ (List.mem_of_getElem? (i := 7) rfl)) (ty := (.array .byte)) (by decide) rfl rfl d3_54 57 rfl ?_
    intro T54 h54 X eT W
    have A_a2 := A_a2.other W ne_a2_a1
    have E_a2 := E_a2.wr W
    have E_a1 := E_a1.wr W
    have F_value_a1 := F_value_a1.same W
    have F_coder_a1 := F_coder_a1.other W (Or.inr (slot_ne (Or.inr (hw _ (List.mem_of_getElem? (i := 23) rfl))) (Or.inr (hw _ (List.mem_of_getElem? (i := 22) rfl))) (by decide) (t := .byte) (t' := (.array .byte)) (by decide) (by decide)))
    have A_b36b1 := A_b36b1.other W (Ne.symm ne_a1_b36b1)
    have E_b36b1 := E_b36b1.wr W
    have A_b36b23b1b4 := A_b36b23b1b4.other W (Ne.symm ne_a1_b36b23b1b4)
    have E_b36b23b1b4 := E_b36b23b1b4.wr W
    have N := Fr.snoc X N g_a1
    have K := K.wr W (Or.inl (List.mem_of_getElem? (i := 0) rfl))
    have Zs := Nat.le_trans Zs (Keep.of_wr W).1
    refine own_ret X hx hby hret hlk d3_57 (by decide) (by decide) ?_
    rw [eT]
    exact ⟨b36b23b1b4, 4, (updI (updI (updI (updI (fun _ => (0 : Int32)) 0 (nar .byte (((ar_a2 0) >>> ((0 : Int32) &&& 31)).toInt8.toInt32))) 1 (nar .byte (((ar_a2 0) >>> ((8 : Int32) &&& 31)).toInt8.toInt32))) 2 (nar .byte (((ar_a2 1) >>> ((0 : Int32) &&& 31)).toInt8.toInt32))) 3 (nar .byte (((ar_a2 1) >>> ((8 : Int32) &&& 31)).toInt8.toInt32))), (nar .byte (1 : Int32)), rfl, N, K, E_a1, F_value_a1, F_coder_a1, A_b36b23b1b4, Or.inr ⟨by decide, rfl, own_all2 (own_utfE (ar_a2 0) (hrg 0)) (own_utfE (ar_a2 1) (hrg 1))⟩⟩
  · skip
    by_cases hk1 : (255 : Int32) < (ar_a2 1)
    · skip
      refine own_callS X hx hby hZ (st := []) [(.ref a2), (.int (0 : Int32)), (.int (2 : Int32))] rfl hown (hw _ (List.mem_of_getElem? (i := 38) rfl)) (hw _ (List.mem_of_getElem? (i := 39) rfl)) (hw _ (List.mem_of_getElem? (i := 40) rfl)) (hw _ (List.mem_of_getElem? (i := 41) rfl)) (by decide) d3_36 (rm7_2_1 l Z a0 hw a2 ar_a2 h0 n0 Zs hk0 hk1 hrg A_a2 E_a2 S__assertionsDisabled S_HI_BYTE_SHIFT S_LO_BYTE_SHIFT g_a2) eT pd_20 rfl (by rw [hml]; rfl) (by decide) 0 rfl (by decide) (by decide) (by decide) 39 rfl ?_
      intro T36 L9 v9 X hQ
      obtain ⟨h36, eT⟩ : ∃ z, T36.heap = z := ⟨_, rfl⟩
      rw [eT] at hQ
      have lt_a1 := E_a1.lt
      have lt_a2 := A_a2.lt
      obtain ⟨b36b1, b36b23b1b4, rfl, N9, Kc, hs_b36b1, hs_b36b23b1b4, A_b36b1, E_b36b1, A_b36b23b1b4, E_b36b23b1b4⟩ := hQ
      have g_b36b1 : n0 ≤ b36b1 := Nat.le_trans Zs hs_b36b1
      have sz_b36b1 : h0.size ≤ b36b1 := Nat.le_trans K.1 hs_b36b1
      have ne_a1_b36b1 : a1 ≠ b36b1 := Nat.ne_of_lt (Nat.lt_of_lt_of_le lt_a1 hs_b36b1)
      have ne_a2_b36b1 : a2 ≠ b36b1 := Nat.ne_of_lt (Nat.lt_of_lt_of_le lt_a2 hs_b36b1)
      have g_b36b23b1b4 : n0 ≤ b36b23b1b4 := Nat.le_trans Zs hs_b36b23b1b4
      have sz_b36b23b1b4 : h0.size ≤ b36b23b1b4 := Nat.le_trans K.1 hs_b36b23b1b4
      have ne_a1_b36b23b1b4 : a1 ≠ b36b23b1b4 := Nat.ne_of_lt (Nat.lt_of_lt_of_le lt_a1 hs_b36b23b1b4)
      have ne_a2_b36b23b1b4 : a2 ≠ b36b23b1b4 := Nat.ne_of_lt (Nat.lt_of_lt_of_le lt_a2 hs_b36b23b1b4)
      have A_a2 := A_a2.keep Kc nin0
      have E_a2 := E_a2.keep Kc
      have E_a1 := E_a1.keep Kc
      have F_value_a1 := F_value_a1.keep Kc nin0
      have F_coder_a1 := F_coder_a1.keep Kc nin0
      have K := K.trans Kc all0
      have Zs := Nat.le_trans Zs Kc.1
      have N := Fr.app N N9
      show Go p e below _ T36 (mkF m 39 #[.val (.ref a1), .val (.ref a2), .val (.int (0 : Int32)), .val (.int (2 : Int32)), .val .null, .unset] [(.ref b36b23b1b4)])
      refine own_astore X hx hby d3_39 rfl (l' := #[.val (.ref a1), .val (.ref a2), .val (.int (0 : Int32)), .val (.int (2 : Int32)), .val .null, .val (.ref b36b23b1b4)]) rfl 41 rfl ?_
      refine own_aloadN X hx hby (.ref a1) d3_41 rfl rfl 42 rfl ?_
      refine own_aload X hx hby (.ref b36b23b1b4) d3_42 rfl rfl 44 rfl ?_
      refine own_iloadN X hx hby (2 : Int32) d3_44 rfl 45 rfl ?_
      refine own_callS X hx hby hZ (st := [(.ref a1)]) [(.ref b36b23b1b4), (.int (2 : Int32))] rfl hown (hw _ (List.mem_of_getElem? (i := 45) rfl)) (hw _ (List.mem_of_getElem? (i := 46) rfl)) (hw _ (List.mem_of_getElem? (i := 40) rfl)) (hw _ (List.mem_of_getElem? (i := 47) rfl)) (by decide) d3_45 (rm9_2_4 l Z a0 hw b36b23b1b4 (updI (updI (updI (updI (fun _ => (0 : Int32)) 0 (nar .byte (((ar_a2 0) >>> ((0 : Int32) &&& 31)).toInt8.toInt32))) 1 (nar .byte (((ar_a2 0) >>> ((8 : Int32) &&& 31)).toInt8.toInt32))) 2 (nar .byte (((ar_a2 1) >>> ((0 : Int32) &&& 31)).toInt8.toInt32))) 3 (nar .byte (((ar_a2 1) >>> ((8 : Int32) &&& 31)).toInt8.toInt32))) h36 n0 Zs A_b36b23b1b4 E_b36b23b1b4) eT pd_15 rfl (by rw [hml]; rfl) (by decide) 1 rfl (by decide) (by decide) (by decide) 48 rfl ?_
      intro T45 L9 v9 X hQ
      obtain ⟨rfl, N9, eT⟩ := hQ
      have N := Fr.app N N9
      show Go p e below _ T45 (mkF m 48 #[.val (.ref a1), .val (.ref a2), .val (.int (0 : Int32)), .val (.int (2 : Int32)), .val .null, .val (.ref b36b23b1b4)] [(.int (1 : Int32)), (.ref a1)])
      refine own_putFN X hx hby hZ hown (hw _ (List.mem_of_getElem? (i := 27) rfl)) Via.refl eT F_coder_a1 E_a1 (Or.inr ⟨(hw _ (List.mem_of_getElem? (i := 23) rfl)), rfl, hnm⟩) (hw _ (List.mem_of_getElem? (i := 7) rfl)) (ty := .byte) (v' := (.int (nar .byte (1 : Int32)))) (by decide) rfl (fits_nar_byte _) d3_48 51 rfl ?_
      intro T48 h48 X eT W
      have A_a2 := A_a2.other W ne_a2_a1
      have E_a2 := E_a2.wr W
      have E_a1 := E_a1.wr W
      have F_value_a1 := F_value_a1.other W (Or.inr (slot_ne (Or.inr (hw _ (List.mem_of_getElem? (i := 22) rfl))) (Or.inr (hw _ (List.mem_of_getElem? (i := 23) rfl))) (by decide) (t := (.array .byte)) (t' := .byte) (by decide) (by decide)))
      have F_coder_a1 := F_coder_a1.same W
      have A_b36b1 := A_b36b1.other W (Ne.symm ne_a1_b36b1)
      have E_b36b1 := E_b36b1.wr W
      have A_b36b23b1b4 := A_b36b23b1b4.other W (Ne.symm ne_a1_b36b23b1b4)
      have E_b36b23b1b4 := E_b36b23b1b4.wr W
      have N := Fr.snoc X N g_a1
      have K := K.wr W (Or.inl (List.mem_of_getElem? (i := 0) rfl))
      have Zs := Nat.le_trans Zs (Keep.of_wr W).1
      refine own_aloadN X hx hby (.ref a1) d3_51 rfl rfl 52 rfl ?_
      refine own_aload X hx hby (.ref b36b23b1b4) d3_52 rfl rfl 54 rfl ?_
      refine own_putF X hx hby hZ hown (host := "") (Or.inl (hw _ (List.mem_of_getElem? (i := 26) rfl))) Via.refl eT F_value_a1 E_a1 (Or.inr ⟨(hw _ (List.mem_of_getElem? (i := 22) rfl)), rfl, hnm⟩) (hw _ (List.mem_of_getElem? (i := 7) rfl)) (ty := (.array .byte)) (by decide) rfl rfl d3_54 57 rfl ?_
      intro T54 h54 X eT W
      have A_a2 := A_a2.other W ne_a2_a1
      have E_a2 := E_a2.wr W
      have E_a1 := E_a1.wr W
      have F_value_a1 := F_value_a1.same W
      have F_coder_a1 := F_coder_a1.other W (Or.inr (slot_ne (Or.inr (hw _ (List.mem_of_getElem? (i := 23) rfl))) (Or.inr (hw _ (List.mem_of_getElem? (i := 22) rfl))) (by decide) (t := .byte) (t' := (.array .byte)) (by decide) (by decide)))
      have A_b36b1 := A_b36b1.other W (Ne.symm ne_a1_b36b1)
      have E_b36b1 := E_b36b1.wr W
      have A_b36b23b1b4 := A_b36b23b1b4.other W (Ne.symm ne_a1_b36b23b1b4)
      have E_b36b23b1b4 := E_b36b23b1b4.wr W
      have N := Fr.snoc X N g_a1
      have K := K.wr W (Or.inl (List.mem_of_getElem? (i := 0) rfl))
      have Zs := Nat.le_trans Zs (Keep.of_wr W).1
      refine own_ret X hx hby hret hlk d3_57 (by decide) (by decide) ?_
      rw [eT]
      exact ⟨b36b23b1b4, 4, (updI (updI (updI (updI (fun _ => (0 : Int32)) 0 (nar .byte (((ar_a2 0) >>> ((0 : Int32) &&& 31)).toInt8.toInt32))) 1 (nar .byte (((ar_a2 0) >>> ((8 : Int32) &&& 31)).toInt8.toInt32))) 2 (nar .byte (((ar_a2 1) >>> ((0 : Int32) &&& 31)).toInt8.toInt32))) 3 (nar .byte (((ar_a2 1) >>> ((8 : Int32) &&& 31)).toInt8.toInt32))), (nar .byte (1 : Int32)), rfl, N, K, E_a1, F_value_a1, F_coder_a1, A_b36b23b1b4, Or.inr ⟨by decide, rfl, own_all2 (own_utfE (ar_a2 0) (hrg 0)) (own_utfE (ar_a2 1) (hrg 1))⟩⟩
    · skip
      refine own_callS X hx hby hZ (st := []) [(.ref a2), (.int (0 : Int32)), (.int (2 : Int32))] rfl hown (hw _ (List.mem_of_getElem? (i := 38) rfl)) (hw _ (List.mem_of_getElem? (i := 39) rfl)) (hw _ (List.mem_of_getElem? (i := 40) rfl)) (hw _ (List.mem_of_getElem? (i := 41) rfl)) (by decide) d3_36 (rm7_2_2 l Z a0 hw a2 ar_a2 h0 n0 Zs hk0 hk1 A_a2 E_a2 g_a2) eT pd_20 rfl (by rw [hml]; rfl) (by decide) 0 rfl (by decide) (by decide) (by decide) 39 rfl ?_
      intro T36 L9 v9 X hQ
      obtain ⟨h36, eT⟩ : ∃ z, T36.heap = z := ⟨_, rfl⟩
      rw [eT] at hQ
      have lt_a1 := E_a1.lt
      have lt_a2 := A_a2.lt
      obtain ⟨b36b1, rfl, N9, Kc, hs_b36b1, A_b36b1, E_b36b1⟩ := hQ
      have g_b36b1 : n0 ≤ b36b1 := Nat.le_trans Zs hs_b36b1
      have sz_b36b1 : h0.size ≤ b36b1 := Nat.le_trans K.1 hs_b36b1
      have ne_a1_b36b1 : a1 ≠ b36b1 := Nat.ne_of_lt (Nat.lt_of_lt_of_le lt_a1 hs_b36b1)
      have ne_a2_b36b1 : a2 ≠ b36b1 := Nat.ne_of_lt (Nat.lt_of_lt_of_le lt_a2 hs_b36b1)
      have A_a2 := A_a2.keep Kc nin0
      have E_a2 := E_a2.keep Kc
      have E_a1 := E_a1.keep Kc
      have F_value_a1 := F_value_a1.keep Kc nin0
      have F_coder_a1 := F_coder_a1.keep Kc nin0
      have K := K.trans Kc all0
      have Zs := Nat.le_trans Zs Kc.1
      have N := Fr.app N N9
      show Go p e below _ T36 (mkF m 39 #[.val (.ref a1), .val (.ref a2), .val (.int (0 : Int32)), .val (.int (2 : Int32)), .val .null, .unset] [(.ref b36b1)])
      refine own_astore X hx hby d3_39 rfl (l' := #[.val (.ref a1), .val (.ref a2), .val (.int (0 : Int32)), .val (.int (2 : Int32)), .val .null, .val (.ref b36b1)]) rfl 41 rfl ?_
      refine own_aloadN X hx hby (.ref a1) d3_41 rfl rfl 42 rfl ?_
      refine own_aload X hx hby (.ref b36b1) d3_42 rfl rfl 44 rfl ?_
      refine own_iloadN X hx hby (2 : Int32) d3_44 rfl 45 rfl ?_
      refine own_callS X hx hby hZ (st := [(.ref a1)]) [(.ref b36b1), (.int (2 : Int32))] rfl hown (hw _ (List.mem_of_getElem? (i := 45) rfl)) (hw _ (List.mem_of_getElem? (i := 46) rfl)) (hw _ (List.mem_of_getElem? (i := 40) rfl)) (hw _ (List.mem_of_getElem? (i := 47) rfl)) (by decide) d3_45 (rm9_2_2 l Z a0 hw b36b1 (updI (updI (fun _ => (0 : Int32)) 0 (nar .byte ((ar_a2 0).toInt8.toInt32))) 1 (nar .byte ((ar_a2 1).toInt8.toInt32))) h36 n0 Zs A_b36b1 E_b36b1) eT pd_15 rfl (by rw [hml]; rfl) (by decide) 1 rfl (by decide) (by decide) (by decide) 48 rfl ?_
      intro T45 L9 v9 X hQ
      obtain ⟨rfl, N9, eT⟩ := hQ
      have N := Fr.app N N9
      show Go p e below _ T45 (mkF m 48 #[.val (.ref a1), .val (.ref a2), .val (.int (0 : Int32)), .val (.int (2 : Int32)), .val .null, .val (.ref b36b1)] [(.int (0 : Int32)), (.ref a1)])
      refine own_putFN X hx hby hZ hown (hw _ (List.mem_of_getElem? (i := 27) rfl)) Via.refl eT F_coder_a1 E_a1 (Or.inr ⟨(hw _ (List.mem_of_getElem? (i := 23) rfl)), rfl, hnm⟩) (hw _ (List.mem_of_getElem? (i := 7) rfl)) (ty := .byte) (v' := (.int (nar .byte (0 : Int32)))) (by decide) rfl (fits_nar_byte _) d3_48 51 rfl ?_
      intro T48 h48 X eT W
      have A_a2 := A_a2.other W ne_a2_a1
      have E_a2 := E_a2.wr W
      have E_a1 := E_a1.wr W
      have F_value_a1 := F_value_a1.other W (Or.inr (slot_ne (Or.inr (hw _ (List.mem_of_getElem? (i := 22) rfl))) (Or.inr (hw _ (List.mem_of_getElem? (i := 23) rfl))) (by decide) (t := (.array .byte)) (t' := .byte) (by decide) (by decide)))
      have F_coder_a1 := F_coder_a1.same W
      have A_b36b1 := A_b36b1.other W (Ne.symm ne_a1_b36b1)
      have E_b36b1 := E_b36b1.wr W
      have N := Fr.snoc X N g_a1
      have K := K.wr W (Or.inl (List.mem_of_getElem? (i := 0) rfl))
      have Zs := Nat.le_trans Zs (Keep.of_wr W).1
      refine own_aloadN X hx hby (.ref a1) d3_51 rfl rfl 52 rfl ?_
      refine own_aload X hx hby (.ref b36b1) d3_52 rfl rfl 54 rfl ?_
      refine own_putF X hx hby hZ hown (host := "") (Or.inl (hw _ (List.mem_of_getElem? (i := 26) rfl))) Via.refl eT F_value_a1 E_a1 (Or.inr ⟨(hw _ (List.mem_of_getElem? (i := 22) rfl)), rfl, hnm⟩) (hw _ (List.mem_of_getElem? (i := 7) rfl)) (ty := (.array .byte)) (by decide) rfl rfl d3_54 57 rfl ?_
      intro T54 h54 X eT W
      have A_a2 := A_a2.other W ne_a2_a1
      have E_a2 := E_a2.wr W
      have E_a1 := E_a1.wr W
      have F_value_a1 := F_value_a1.same W
      have F_coder_a1 := F_coder_a1.other W (Or.inr (slot_ne (Or.inr (hw _ (List.mem_of_getElem? (i := 23) rfl))) (Or.inr (hw _ (List.mem_of_getElem? (i := 22) rfl))) (by decide) (t := .byte) (t' := (.array .byte)) (by decide) (by decide)))
      have A_b36b1 := A_b36b1.other W (Ne.symm ne_a1_b36b1)
      have E_b36b1 := E_b36b1.wr W
      have N := Fr.snoc X N g_a1
      have K := K.wr W (Or.inl (List.mem_of_getElem? (i := 0) rfl))
      have Zs := Nat.le_trans Zs (Keep.of_wr W).1
      refine own_ret X hx hby hret hlk d3_57 (by decide) (by decide) ?_
      rw [eT]
      exact ⟨b36b1, 2, (updI (updI (fun _ => (0 : Int32)) 0 (nar .byte ((ar_a2 0).toInt8.toInt32))) 1 (nar .byte ((ar_a2 1).toInt8.toInt32))), (nar .byte (0 : Int32)), rfl, N, K, E_a1, F_value_a1, F_coder_a1, A_b36b1, Or.inl ⟨by decide, rfl, own_all2 (own_latE (ar_a2 0) (hrg 0) hk0) (own_latE (ar_a2 1) (hrg 1) hk1)⟩⟩
theorem ef_3_3 (a1 : Addr) (a2 : Addr) (m : MethodId) : entryFrame m #[(.ref a1), (.ref a2), (.int (0 : Int32)), (.int (3 : Int32)), .null] 6 = mkF m 0 #[.val (.ref a1), .val (.ref a2), .val (.int (0 : Int32)), .val (.int (3 : Int32)), .val .null, .unset] [] := by first | (simp [entryFrame, mkF, argsToLocals, Value.category]; done) | rfl
def Q3_3 (Z : State) (a1 : Addr) (a2 : Addr) (ar_a2 : Nat → Int32) (w_value_a1 : Value) (w_coder_a1 : Int32) (u_COMPACT_STRINGS : Int32) (h0 : Heap) (n0 : Nat) (v : Option Value) (h : Heap) (L : List Loc) : Prop := ∃ (r : Addr) (nb : Nat) (gg : Nat → Int32) (cd : Int32), v = none ∧ Fr n0 L ∧ Keep h0 h [a1] ∧ Exa Z h a1 "java/lang/String" ∧ Fld Z h a1 "java/lang/String" "value" "[B" (.ref r) ∧ Fld Z h a1 "java/lang/String" "coder" "B" (.int cd) ∧ Afi Z h r .byte nb gg ∧ own_str 3 ar_a2 cd nb gg
set_option maxRecDepth 65536 in
set_option maxHeartbeats 40000000 in
theorem rm3_3 (l : Launch) (Z : State) (a0 : Array Value) (hw : ∀ d ∈ tables_1, d.before a0 Z = true) (a1 : Addr) (a2 : Addr) (ar_a2 : Nat → Int32) (w_value_a1 : Value) (w_coder_a1 : Int32) (u_COMPACT_STRINGS : Int32) (h0 : Heap) (n0 : Nat) (Zs : n0 ≤ h0.size) (hcs : ¬ u_COMPACT_STRINGS = (0 : Int32)) (hrg : ∀ i, 0 ≤ (ar_a2 i).toInt ∧ (ar_a2 i).toInt < 65536) (A_a2 : Afi Z h0 a2 .char 3 ar_a2) (E_a2 : Exa Z h0 a2 "[C") (E_a1 : Exa Z h0 a1 "java/lang/String") (F_value_a1 : Fld Z h0 a1 "java/lang/String" "value" "[B" w_value_a1) (F_coder_a1 : Fld Z h0 a1 "java/lang/String" "coder" "B" (.int w_coder_a1)) (g_a1 : n0 ≤ a1) (S_COMPACT_STRINGS : Sta Z h0 "java/lang/String" "COMPACT_STRINGS" "Z" (.int u_COMPACT_STRINGS)) (S__assertionsDisabled : Sta Z h0 "java/lang/StringUTF16" "$assertionsDisabled" "Z" (.int (1 : Int32))) (S_HI_BYTE_SHIFT : Sta Z h0 "java/lang/StringUTF16" "HI_BYTE_SHIFT" "I" (.int (0 : Int32))) (S_LO_BYTE_SHIFT : Sta Z h0 "java/lang/StringUTF16" "LO_BYTE_SHIFT" "I" (.int (8 : Int32))) (g_a2 : n0 ≤ a2) (g_a2 : n0 ≤ a2) (g_a2 : n0 ≤ a2) (g_a2 : n0 ≤ a2) :
    Met1 l Z (⟨"java/lang/String", "<init>", "([CIILjava/lang/Void;)V"⟩ : MethodName) jdk_42_method_149_code 6 none ({ frames := 4, cells := 2, slots := 9, locals := 57 } : Room) #[(.ref a1), (.ref a2), (.int (0 : Int32)), (.int (3 : Int32)), .null] h0 (Q3_3 Z a1 a2 ar_a2 w_value_a1 w_coder_a1 u_COMPACT_STRINGS h0 n0) := by
  refine own_met_of (plainFor_of_name pn_12) (ef_3_3 a1 a2) ?_
  intro p e s m below meth c s₁ X hx hby hml hZ hown hnm hret hlk eT
  have hown : s.vm.findClass "java/lang/String" = some m.cls := hown
  have N := Fr.nil n0
  have K := Keep.refl h0 [a1]
  have ne_a2_a1 : a2 ≠ a1 := ne_exa E_a2 E_a1 (by decide)
  refine own_aloadN X hx hby (.ref a1) d3_0 rfl rfl 1 rfl ?_
  refine own_initO X hx hby hZ hown (hw _ (List.mem_of_getElem? (i := 17) rfl)) (hw _ (List.mem_of_getElem? (i := 18) rfl)) (hw _ (List.mem_of_getElem? (i := 19) rfl)) eT (by rw [hml]; rfl) d3_1 (by decide) 0 rfl (by decide) 4 rfl ?_
  intro T1 X eT
  refine own_iloadN X hx hby (3 : Int32) d3_4 rfl 5 rfl ?_
  have c5 : ¬ (3 : Int32) = (0 : Int32) := by decide
  refine own_if_ne X hx hby d3_5 27 8 (by decide) rfl (fun _ => ?_) (fun q => absurd q c5)
  refine own_getS X hx hby hZ hown (host := "") (Or.inl (hw _ (List.mem_of_getElem? (i := 37) rfl))) Via.refl eT S_COMPACT_STRINGS d3_27 30 rfl ?_
  intro T27 X eT
  have c30 : ¬ u_COMPACT_STRINGS = (0 : Int32) := hcs
  refine own_if_eq X hx hby d3_30 58 33 (by decide) rfl (fun q => absurd q c30) (fun _ => ?_)
  refine own_aloadN X hx hby (.ref a2) d3_33 rfl rfl 34 rfl ?_
  refine own_iloadN X hx hby (0 : Int32) d3_34 rfl 35 rfl ?_
  refine own_iloadN X hx hby (3 : Int32) d3_35 rfl 36 rfl ?_
  by_cases hk0 : (255 : Int32) < (ar_a2 0)
  · skip
    refine own_callS X hx hby hZ (st := []) [(.ref a2), (.int (0 : Int32)), (.int (3 : Int32))] rfl hown (hw _ (List.mem_of_getElem? (i := 38) rfl)) (hw _ (List.mem_of_getElem? (i := 39) rfl)) (hw _ (List.mem_of_getElem? (i := 40) rfl)) (hw _ (List.mem_of_getElem? (i := 41) rfl)) (by decide) d3_36 (rm7_3_0 l Z a0 hw a2 ar_a2 h0 n0 Zs hk0 hrg A_a2 E_a2 S__assertionsDisabled S_HI_BYTE_SHIFT S_LO_BYTE_SHIFT g_a2) eT pd_20 rfl (by rw [hml]; rfl) (by decide) 0 rfl (by decide) (by decide) (by decide) 39 rfl ?_
    intro T36 L9 v9 X hQ
    obtain ⟨h36, eT⟩ : ∃ z, T36.heap = z := ⟨_, rfl⟩
    rw [eT] at hQ
    have lt_a1 := E_a1.lt
    have lt_a2 := A_a2.lt
    obtain ⟨b36b1, b36b23b1b4, rfl, N9, Kc, hs_b36b1, hs_b36b23b1b4, A_b36b1, E_b36b1, A_b36b23b1b4, E_b36b23b1b4⟩ := hQ
    have g_b36b1 : n0 ≤ b36b1 := Nat.le_trans Zs hs_b36b1
    have sz_b36b1 : h0.size ≤ b36b1 := Nat.le_trans K.1 hs_b36b1
    have ne_a1_b36b1 : a1 ≠ b36b1 := Nat.ne_of_lt (Nat.lt_of_lt_of_le lt_a1 hs_b36b1)
    have ne_a2_b36b1 : a2 ≠ b36b1 := Nat.ne_of_lt (Nat.lt_of_lt_of_le lt_a2 hs_b36b1)
    have g_b36b23b1b4 : n0 ≤ b36b23b1b4 := Nat.le_trans Zs hs_b36b23b1b4
    have sz_b36b23b1b4 : h0.size ≤ b36b23b1b4 := Nat.le_trans K.1 hs_b36b23b1b4
    have ne_a1_b36b23b1b4 : a1 ≠ b36b23b1b4 := Nat.ne_of_lt (Nat.lt_of_lt_of_le lt_a1 hs_b36b23b1b4)
    have ne_a2_b36b23b1b4 : a2 ≠ b36b23b1b4 := Nat.ne_of_lt (Nat.lt_of_lt_of_le lt_a2 hs_b36b23b1b4)
    have A_a2 := A_a2.keep Kc nin0
    have E_a2 := E_a2.keep Kc
    have E_a1 := E_a1.keep Kc
    have F_value_a1 := F_value_a1.keep Kc nin0
    have F_coder_a1 := F_coder_a1.keep Kc nin0
    have K := K.trans Kc all0
    have Zs := Nat.le_trans Zs Kc.1
    have N := Fr.app N N9
    show Go p e below _ T36 (mkF m 39 #[.val (.ref a1), .val (.ref a2), .val (.int (0 : Int32)), .val (.int (3 : Int32)), .val .null, .unset] [(.ref b36b23b1b4)])
    refine own_astore X hx hby d3_39 rfl (l' := #[.val (.ref a1), .val (.ref a2), .val (.int (0 : Int32)), .val (.int (3 : Int32)), .val .null, .val (.ref b36b23b1b4)]) rfl 41 rfl ?_
    refine own_aloadN X hx hby (.ref a1) d3_41 rfl rfl 42 rfl ?_
    refine own_aload X hx hby (.ref b36b23b1b4) d3_42 rfl rfl 44 rfl ?_
    refine own_iloadN X hx hby (3 : Int32) d3_44 rfl 45 rfl ?_
    refine own_callS X hx hby hZ (st := [(.ref a1)]) [(.ref b36b23b1b4), (.int (3 : Int32))] rfl hown (hw _ (List.mem_of_getElem? (i := 45) rfl)) (hw _ (List.mem_of_getElem? (i := 46) rfl)) (hw _ (List.mem_of_getElem? (i := 40) rfl)) (hw _ (List.mem_of_getElem? (i := 47) rfl)) (by decide) d3_45 (rm9_3_6 l Z a0 hw b36b23b1b4 (updI (updI (updI (updI (updI (updI (fun _ => (0 : Int32)) 0 (nar .byte (((ar_a2 0) >>> ((0 : Int32) &&& 31)).toInt8.toInt32))) 1 (nar .byte (((ar_a2 0) >>> ((8 : Int32) &&& 31)).toInt8.toInt32))) 2 (nar .byte (((ar_a2 1) >>> ((0 : Int32) &&& 31)).toInt8.toInt32))) 3 (nar .byte (((ar_a2 1) >>> ((8 : Int32) &&& 31)).toInt8.toInt32))) 4 (nar .byte (((ar_a2 2) >>> ((0 : Int32) &&& 31)).toInt8.toInt32))) 5 (nar .byte (((ar_a2 2) >>> ((8 : Int32) &&& 31)).toInt8.toInt32))) h36 n0 Zs A_b36b23b1b4 E_b36b23b1b4) eT pd_15 rfl (by rw [hml]; rfl) (by decide) 1 rfl (by decide) (by decide) (by decide) 48 rfl ?_
    intro T45 L9 v9 X hQ
    obtain ⟨rfl, N9, eT⟩ := hQ
    have N := Fr.app N N9
    show Go p e below _ T45 (mkF m 48 #[.val (.ref a1), .val (.ref a2), .val (.int (0 : Int32)), .val (.int (3 : Int32)), .val .null, .val (.ref b36b23b1b4)] [(.int (1 : Int32)), (.ref a1)])
    refine own_putFN X hx hby hZ hown (hw _ (List.mem_of_getElem? (i := 27) rfl)) Via.refl eT F_coder_a1 E_a1 (Or.inr ⟨(hw _ (List.mem_of_getElem? (i := 23) rfl)), rfl, hnm⟩) (hw _ (List.mem_of_getElem? (i := 7) rfl)) (ty := .byte) (v' := (.int (nar .byte (1 : Int32)))) (by decide) rfl (fits_nar_byte _) d3_48 51 rfl ?_
    intro T48 h48 X eT W
    have A_a2 := A_a2.other W ne_a2_a1
    have E_a2 := E_a2.wr W
    have E_a1 := E_a1.wr W
    have F_value_a1 := F_value_a1.other W (Or.inr (slot_ne (Or.inr (hw _ (List.mem_of_getElem? (i := 22) rfl))) (Or.inr (hw _ (List.mem_of_getElem? (i := 23) rfl))) (by decide) (t := (.array .byte)) (t' := .byte) (by decide) (by decide)))
    have F_coder_a1 := F_coder_a1.same W
    have A_b36b1 := A_b36b1.other W (Ne.symm ne_a1_b36b1)
    have E_b36b1 := E_b36b1.wr W
    have A_b36b23b1b4 := A_b36b23b1b4.other W (Ne.symm ne_a1_b36b23b1b4)
    have E_b36b23b1b4 := E_b36b23b1b4.wr W
    have N := Fr.snoc X N g_a1
    have K := K.wr W (Or.inl (List.mem_of_getElem? (i := 0) rfl))
    have Zs := Nat.le_trans Zs (Keep.of_wr W).1
    refine own_aloadN X hx hby (.ref a1) d3_51 rfl rfl 52 rfl ?_
    refine own_aload X hx hby (.ref b36b23b1b4) d3_52 rfl rfl 54 rfl ?_
    refine own_putF X hx hby hZ hown (host := "") (Or.inl (hw _ (List.mem_of_getElem? (i := 26) rfl))) Via.refl eT F_value_a1 E_a1 (Or.inr ⟨(hw _ (List.mem_of_getElem? (i := 22) rfl)), rfl, hnm⟩) (hw _ (List.mem_of_getElem? (i := 7) rfl)) (ty := (.array .byte)) (by decide) rfl rfl d3_54 57 rfl ?_
    intro T54 h54 X eT W
    have A_a2 := A_a2.other W ne_a2_a1
    have E_a2 := E_a2.wr W
    have E_a1 := E_a1.wr W
    have F_value_a1 := F_value_a1.same W
    have F_coder_a1 := F_coder_a1.other W (Or.inr (slot_ne (Or.inr (hw _ (List.mem_of_getElem? (i := 23) rfl))) (Or.inr (hw _ (List.mem_of_getElem? (i := 22) rfl))) (by decide) (t := .byte) (t' := (.array .byte)) (by decide) (by decide)))
    have A_b36b1 := A_b36b1.other W (Ne.symm ne_a1_b36b1)
    have E_b36b1 := E_b36b1.wr W
    have A_b36b23b1b4 := A_b36b23b1b4.other W (Ne.symm ne_a1_b36b23b1b4)
    have E_b36b23b1b4 := E_b36b23b1b4.wr W
    have N := Fr.snoc X N g_a1
    have K := K.wr W (Or.inl (List.mem_of_getElem? (i := 0) rfl))
    have Zs := Nat.le_trans Zs (Keep.of_wr W).1
    refine own_ret X hx hby hret hlk d3_57 (by decide) (by decide) ?_
    rw [eT]
    exact ⟨b36b23b1b4, 6, (updI (updI (updI (updI (updI (updI (fun _ => (0 : Int32)) 0 (nar .byte (((ar_a2 0) >>> ((0 : Int32) &&& 31)).toInt8.toInt32))) 1 (nar .byte (((ar_a2 0) >>> ((8 : Int32) &&& 31)).toInt8.toInt32))) 2 (nar .byte (((ar_a2 1) >>> ((0 : Int32) &&& 31)).toInt8.toInt32))) 3 (nar .byte (((ar_a2 1) >>> ((8 : Int32) &&& 31)).toInt8.toInt32))) 4 (nar .byte (((ar_a2 2) >>> ((0 : Int32) &&& 31)).toInt8.toInt32))) 5 (nar .byte (((ar_a2 2) >>> ((8 : Int32) &&& 31)).toInt8.toInt32))), (nar .byte (1 : Int32)), rfl, N, K, E_a1, F_value_a1, F_coder_a1, A_b36b23b1b4, Or.inr ⟨by decide, rfl, own_all3 (own_utfE (ar_a2 0) (hrg 0)) (own_utfE (ar_a2 1) (hrg 1)) (own_utfE (ar_a2 2) (hrg 2))⟩⟩
  · skip
    by_cases hk1 : (255 : Int32) < (ar_a2 1)
    · skip
      refine own_callS X hx hby hZ (st := []) [(.ref a2), (.int (0 : Int32)), (.int (3 : Int32))] rfl hown (hw _ (List.mem_of_getElem? (i := 38) rfl)) (hw _ (List.mem_of_getElem? (i := 39) rfl)) (hw _ (List.mem_of_getElem? (i := 40) rfl)) (hw _ (List.mem_of_getElem? (i := 41) rfl)) (by decide) d3_36 (rm7_3_1 l Z a0 hw a2 ar_a2 h0 n0 Zs hk0 hk1 hrg A_a2 E_a2 S__assertionsDisabled S_HI_BYTE_SHIFT S_LO_BYTE_SHIFT g_a2) eT pd_20 rfl (by rw [hml]; rfl) (by decide) 0 rfl (by decide) (by decide) (by decide) 39 rfl ?_
      intro T36 L9 v9 X hQ
      obtain ⟨h36, eT⟩ : ∃ z, T36.heap = z := ⟨_, rfl⟩
      rw [eT] at hQ
      have lt_a1 := E_a1.lt
      have lt_a2 := A_a2.lt
      obtain ⟨b36b1, b36b23b1b4, rfl, N9, Kc, hs_b36b1, hs_b36b23b1b4, A_b36b1, E_b36b1, A_b36b23b1b4, E_b36b23b1b4⟩ := hQ
      have g_b36b1 : n0 ≤ b36b1 := Nat.le_trans Zs hs_b36b1
      have sz_b36b1 : h0.size ≤ b36b1 := Nat.le_trans K.1 hs_b36b1
      have ne_a1_b36b1 : a1 ≠ b36b1 := Nat.ne_of_lt (Nat.lt_of_lt_of_le lt_a1 hs_b36b1)
      have ne_a2_b36b1 : a2 ≠ b36b1 := Nat.ne_of_lt (Nat.lt_of_lt_of_le lt_a2 hs_b36b1)
      have g_b36b23b1b4 : n0 ≤ b36b23b1b4 := Nat.le_trans Zs hs_b36b23b1b4
      have sz_b36b23b1b4 : h0.size ≤ b36b23b1b4 := Nat.le_trans K.1 hs_b36b23b1b4
      have ne_a1_b36b23b1b4 : a1 ≠ b36b23b1b4 := Nat.ne_of_lt (Nat.lt_of_lt_of_le lt_a1 hs_b36b23b1b4)
      have ne_a2_b36b23b1b4 : a2 ≠ b36b23b1b4 := Nat.ne_of_lt (Nat.lt_of_lt_of_le lt_a2 hs_b36b23b1b4)
      have A_a2 := A_a2.keep Kc nin0
      have E_a2 := E_a2.keep Kc
      have E_a1 := E_a1.keep Kc
      have F_value_a1 := F_value_a1.keep Kc nin0
      have F_coder_a1 := F_coder_a1.keep Kc nin0
      have K := K.trans Kc all0
      have Zs := Nat.le_trans Zs Kc.1
      have N := Fr.app N N9
      show Go p e below _ T36 (mkF m 39 #[.val (.ref a1), .val (.ref a2), .val (.int (0 : Int32)), .val (.int (3 : Int32)), .val .null, .unset] [(.ref b36b23b1b4)])
      refine own_astore X hx hby d3_39 rfl (l' := #[.val (.ref a1), .val (.ref a2), .val (.int (0 : Int32)), .val (.int (3 : Int32)), .val .null, .val (.ref b36b23b1b4)]) rfl 41 rfl ?_
      refine own_aloadN X hx hby (.ref a1) d3_41 rfl rfl 42 rfl ?_
      refine own_aload X hx hby (.ref b36b23b1b4) d3_42 rfl rfl 44 rfl ?_
      refine own_iloadN X hx hby (3 : Int32) d3_44 rfl 45 rfl ?_
      refine own_callS X hx hby hZ (st := [(.ref a1)]) [(.ref b36b23b1b4), (.int (3 : Int32))] rfl hown (hw _ (List.mem_of_getElem? (i := 45) rfl)) (hw _ (List.mem_of_getElem? (i := 46) rfl)) (hw _ (List.mem_of_getElem? (i := 40) rfl)) (hw _ (List.mem_of_getElem? (i := 47) rfl)) (by decide) d3_45 (rm9_3_6 l Z a0 hw b36b23b1b4 (updI (updI (updI (updI (updI (updI (fun _ => (0 : Int32)) 0 (nar .byte (((ar_a2 0) >>> ((0 : Int32) &&& 31)).toInt8.toInt32))) 1 (nar .byte (((ar_a2 0) >>> ((8 : Int32) &&& 31)).toInt8.toInt32))) 2 (nar .byte (((ar_a2 1) >>> ((0 : Int32) &&& 31)).toInt8.toInt32))) 3 (nar .byte (((ar_a2 1) >>> ((8 : Int32) &&& 31)).toInt8.toInt32))) 4 (nar .byte (((ar_a2 2) >>> ((0 : Int32) &&& 31)).toInt8.toInt32))) 5 (nar .byte (((ar_a2 2) >>> ((8 : Int32) &&& 31)).toInt8.toInt32))) h36 n0 Zs A_b36b23b1b4 E_b36b23b1b4) eT pd_15 rfl (by rw [hml]; rfl) (by decide) 1 rfl (by decide) (by decide) (by decide) 48 rfl ?_
      intro T45 L9 v9 X hQ
      obtain ⟨rfl, N9, eT⟩ := hQ
      have N := Fr.app N N9
      show Go p e below _ T45 (mkF m 48 #[.val (.ref a1), .val (.ref a2), .val (.int (0 : Int32)), .val (.int (3 : Int32)), .val .null, .val (.ref b36b23b1b4)] [(.int (1 : Int32)), (.ref a1)])
      refine own_putFN X hx hby hZ hown (hw _ (List.mem_of_getElem? (i := 27) rfl)) Via.refl eT F_coder_a1 E_a1 (Or.inr ⟨(hw _ (List.mem_of_getElem? (i := 23) rfl)), rfl, hnm⟩) (hw _ (List.mem_of_getElem? (i := 7) rfl)) (ty := .byte) (v' := (.int (nar .byte (1 : Int32)))) (by decide) rfl (fits_nar_byte _) d3_48 51 rfl ?_
      intro T48 h48 X eT W
      have A_a2 := A_a2.other W ne_a2_a1
      have E_a2 := E_a2.wr W
      have E_a1 := E_a1.wr W
      have F_value_a1 := F_value_a1.other W (Or.inr (slot_ne (Or.inr (hw _ (List.mem_of_getElem? (i := 22) rfl))) (Or.inr (hw _ (List.mem_of_getElem? (i := 23) rfl))) (by decide) (t := (.array .byte)) (t' := .byte) (by decide) (by decide)))
      have F_coder_a1 := F_coder_a1.same W
      have A_b36b1 := A_b36b1.other W (Ne.symm ne_a1_b36b1)
      have E_b36b1 := E_b36b1.wr W
      have A_b36b23b1b4 := A_b36b23b1b4.other W (Ne.symm ne_a1_b36b23b1b4)
      have E_b36b23b1b4 := E_b36b23b1b4.wr W
      have N := Fr.snoc X N g_a1
      have K := K.wr W (Or.inl (List.mem_of_getElem? (i := 0) rfl))
      have Zs := Nat.le_trans Zs (Keep.of_wr W).1
      refine own_aloadN X hx hby (.ref a1) d3_51 rfl rfl 52 rfl ?_
      refine own_aload X hx hby (.ref b36b23b1b4) d3_52 rfl rfl 54 rfl ?_
      refine own_putF X hx hby hZ hown (host := "") (Or.inl (hw _ (List.mem_of_getElem? (i := 26) rfl))) Via.refl eT F_value_a1 E_a1 (Or.inr ⟨(hw _ (List.mem_of_getElem? (i := 22) rfl)), rfl, hnm⟩) (hw _ (List.mem_of_getElem? (i := 7) rfl)) (ty := (.array .byte)) (by decide) rfl rfl d3_54 57 rfl ?_
      intro T54 h54 X eT W
      have A_a2 := A_a2.other W ne_a2_a1
      have E_a2 := E_a2.wr W
      have E_a1 := E_a1.wr W
      have F_value_a1 := F_value_a1.same W
      have F_coder_a1 := F_coder_a1.other W (Or.inr (slot_ne (Or.inr (hw _ (List.mem_of_getElem? (i := 23) rfl))) (Or.inr (hw _ (List.mem_of_getElem? (i := 22) rfl))) (by decide) (t := .byte) (t' := (.array .byte)) (by decide) (by decide)))
      have A_b36b1 := A_b36b1.other W (Ne.symm ne_a1_b36b1)
      have E_b36b1 := E_b36b1.wr W
      have A_b36b23b1b4 := A_b36b23b1b4.other W (Ne.symm ne_a1_b36b23b1b4)
      have E_b36b23b1b4 := E_b36b23b1b4.wr W
      have N := Fr.snoc X N g_a1
      have K := K.wr W (Or.inl (List.mem_of_getElem? (i := 0) rfl))
      have Zs := Nat.le_trans Zs (Keep.of_wr W).1
      refine own_ret X hx hby hret hlk d3_57 (by decide) (by decide) ?_
      rw [eT]
      exact ⟨b36b23b1b4, 6, (updI (updI (updI (updI (updI (updI (fun _ => (0 : Int32)) 0 (nar .byte (((ar_a2 0) >>> ((0 : Int32) &&& 31)).toInt8.toInt32))) 1 (nar .byte (((ar_a2 0) >>> ((8 : Int32) &&& 31)).toInt8.toInt32))) 2 (nar .byte (((ar_a2 1) >>> ((0 : Int32) &&& 31)).toInt8.toInt32))) 3 (nar .byte (((ar_a2 1) >>> ((8 : Int32) &&& 31)).toInt8.toInt32))) 4 (nar .byte (((ar_a2 2) >>> ((0 : Int32) &&& 31)).toInt8.toInt32))) 5 (nar .byte (((ar_a2 2) >>> ((8 : Int32) &&& 31)).toInt8.toInt32))), (nar .byte (1 : Int32)), rfl, N, K, E_a1, F_value_a1, F_coder_a1, A_b36b23b1b4, Or.inr ⟨by decide, rfl, own_all3 (own_utfE (ar_a2 0) (hrg 0)) (own_utfE (ar_a2 1) (hrg 1)) (own_utfE (ar_a2 2) (hrg 2))⟩⟩
    · skip
      by_cases hk2 : (255 : Int32) < (ar_a2 2)
      · skip
        refine own_callS X hx hby hZ (st := []) [(.ref a2), (.int (0 : Int32)), (.int (3 : Int32))] rfl hown (hw _ (List.mem_of_getElem? (i := 38) rfl)) (hw _ (List.mem_of_getElem? (i := 39) rfl)) (hw _ (List.mem_of_getElem? (i := 40) rfl)) (hw _ (List.mem_of_getElem? (i := 41) rfl)) (by decide) d3_36 (rm7_3_2 l Z a0 hw a2 ar_a2 h0 n0 Zs hk0 hk1 hk2 hrg A_a2 E_a2 S__assertionsDisabled S_HI_BYTE_SHIFT S_LO_BYTE_SHIFT g_a2) eT pd_20 rfl (by rw [hml]; rfl) (by decide) 0 rfl (by decide) (by decide) (by decide) 39 rfl ?_
        intro T36 L9 v9 X hQ
        obtain ⟨h36, eT⟩ : ∃ z, T36.heap = z := ⟨_, rfl⟩
        rw [eT] at hQ
        have lt_a1 := E_a1.lt
        have lt_a2 := A_a2.lt
        obtain ⟨b36b1, b36b23b1b4, rfl, N9, Kc, hs_b36b1, hs_b36b23b1b4, A_b36b1, E_b36b1, A_b36b23b1b4, E_b36b23b1b4⟩ := hQ
        have g_b36b1 : n0 ≤ b36b1 := Nat.le_trans Zs hs_b36b1
        have sz_b36b1 : h0.size ≤ b36b1 := Nat.le_trans K.1 hs_b36b1
        have ne_a1_b36b1 : a1 ≠ b36b1 := Nat.ne_of_lt (Nat.lt_of_lt_of_le lt_a1 hs_b36b1)
        have ne_a2_b36b1 : a2 ≠ b36b1 := Nat.ne_of_lt (Nat.lt_of_lt_of_le lt_a2 hs_b36b1)
        have g_b36b23b1b4 : n0 ≤ b36b23b1b4 := Nat.le_trans Zs hs_b36b23b1b4
        have sz_b36b23b1b4 : h0.size ≤ b36b23b1b4 := Nat.le_trans K.1 hs_b36b23b1b4
        have ne_a1_b36b23b1b4 : a1 ≠ b36b23b1b4 := Nat.ne_of_lt (Nat.lt_of_lt_of_le lt_a1 hs_b36b23b1b4)
        have ne_a2_b36b23b1b4 : a2 ≠ b36b23b1b4 := Nat.ne_of_lt (Nat.lt_of_lt_of_le lt_a2 hs_b36b23b1b4)
        have A_a2 := A_a2.keep Kc nin0
        have E_a2 := E_a2.keep Kc
        have E_a1 := E_a1.keep Kc
        have F_value_a1 := F_value_a1.keep Kc nin0
        have F_coder_a1 := F_coder_a1.keep Kc nin0
        have K := K.trans Kc all0
        have Zs := Nat.le_trans Zs Kc.1
        have N := Fr.app N N9
        show Go p e below _ T36 (mkF m 39 #[.val (.ref a1), .val (.ref a2), .val (.int (0 : Int32)), .val (.int (3 : Int32)), .val .null, .unset] [(.ref b36b23b1b4)])
        refine own_astore X hx hby d3_39 rfl (l' := #[.val (.ref a1), .val (.ref a2), .val (.int (0 : Int32)), .val (.int (3 : Int32)), .val .null, .val (.ref b36b23b1b4)]) rfl 41 rfl ?_
        refine own_aloadN X hx hby (.ref a1) d3_41 rfl rfl 42 rfl ?_
        refine own_aload X hx hby (.ref b36b23b1b4) d3_42 rfl rfl 44 rfl ?_
        refine own_iloadN X hx hby (3 : Int32) d3_44 rfl 45 rfl ?_
        refine own_callS X hx hby hZ (st := [(.ref a1)]) [(.ref b36b23b1b4), (.int (3 : Int32))] rfl hown (hw _ (List.mem_of_getElem? (i := 45) rfl)) (hw _ (List.mem_of_getElem? (i := 46) rfl)) (hw _ (List.mem_of_getElem? (i := 40) rfl)) (hw _ (List.mem_of_getElem? (i := 47) rfl)) (by decide) d3_45 (rm9_3_6 l Z a0 hw b36b23b1b4 (updI (updI (updI (updI (updI (updI (fun _ => (0 : Int32)) 0 (nar .byte (((ar_a2 0) >>> ((0 : Int32) &&& 31)).toInt8.toInt32))) 1 (nar .byte (((ar_a2 0) >>> ((8 : Int32) &&& 31)).toInt8.toInt32))) 2 (nar .byte (((ar_a2 1) >>> ((0 : Int32) &&& 31)).toInt8.toInt32))) 3 (nar .byte (((ar_a2 1) >>> ((8 : Int32) &&& 31)).toInt8.toInt32))) 4 (nar .byte (((ar_a2 2) >>> ((0 : Int32) &&& 31)).toInt8.toInt32))) 5 (nar .byte (((ar_a2 2) >>> ((8 : Int32) &&& 31)).toInt8.toInt32))) h36 n0 Zs A_b36b23b1b4 E_b36b23b1b4) eT pd_15 rfl (by rw [hml]; rfl) (by decide) 1 rfl (by decide) (by decide) (by decide) 48 rfl ?_
        intro T45 L9 v9 X hQ
        obtain ⟨rfl, N9, eT⟩ := hQ
        have N := Fr.app N N9
        show Go p e below _ T45 (mkF m 48 #[.val (.ref a1), .val (.ref a2), .val (.int (0 : Int32)), .val (.int (3 : Int32)), .val .null, .val (.ref b36b23b1b4)] [(.int (1 : Int32)), (.ref a1)])
        refine own_putFN X hx hby hZ hown (hw _ (List.mem_of_getElem? (i := 27) rfl)) Via.refl eT F_coder_a1 E_a1 (Or.inr ⟨(hw _ (List.mem_of_getElem? (i := 23) rfl)), rfl, hnm⟩) (hw _ (List.mem_of_getElem? (i := 7) rfl)) (ty := .byte) (v' := (.int (nar .byte (1 : Int32)))) (by decide) rfl (fits_nar_byte _) d3_48 51 rfl ?_
        intro T48 h48 X eT W
        have A_a2 := A_a2.other W ne_a2_a1
        have E_a2 := E_a2.wr W
        have E_a1 := E_a1.wr W
        have F_value_a1 := F_value_a1.other W (Or.inr (slot_ne (Or.inr (hw _ (List.mem_of_getElem? (i := 22) rfl))) (Or.inr (hw _ (List.mem_of_getElem? (i := 23) rfl))) (by decide) (t := (.array .byte)) (t' := .byte) (by decide) (by decide)))
        have F_coder_a1 := F_coder_a1.same W
        have A_b36b1 := A_b36b1.other W (Ne.symm ne_a1_b36b1)
        have E_b36b1 := E_b36b1.wr W
        have A_b36b23b1b4 := A_b36b23b1b4.other W (Ne.symm ne_a1_b36b23b1b4)
        have E_b36b23b1b4 := E_b36b23b1b4.wr W
        have N := Fr.snoc X N g_a1
        have K := K.wr W (Or.inl (List.mem_of_getElem? (i := 0) rfl))
        have Zs := Nat.le_trans Zs (Keep.of_wr W).1
        refine own_aloadN X hx hby (.ref a1) d3_51 rfl rfl 52 rfl ?_
        refine own_aload X hx hby (.ref b36b23b1b4) d3_52 rfl rfl 54 rfl ?_
        refine own_putF X hx hby hZ hown (host := "") (Or.inl (hw _ (List.mem_of_getElem? (i := 26) rfl))) Via.refl eT F_value_a1 E_a1 (Or.inr ⟨(hw _ (List.mem_of_getElem? (i := 22) rfl)), rfl, hnm⟩) (hw _ (List.mem_of_getElem? (i := 7) rfl)) (ty := (.array .byte)) (by decide) rfl rfl d3_54 57 rfl ?_
        intro T54 h54 X eT W
        have A_a2 := A_a2.other W ne_a2_a1
        have E_a2 := E_a2.wr W
        have E_a1 := E_a1.wr W
        have F_value_a1 := F_value_a1.same W
        have F_coder_a1 := F_coder_a1.other W (Or.inr (slot_ne (Or.inr (hw _ (List.mem_of_getElem? (i := 23) rfl))) (Or.inr (hw _ (List.mem_of_getElem? (i := 22) rfl))) (by decide) (t := .byte) (t' := (.array .byte)) (by decide) (by decide)))
        have A_b36b1 := A_b36b1.other W (Ne.symm ne_a1_b36b1)
        have E_b36b1 := E_b36b1.wr W
        have A_b36b23b1b4 := A_b36b23b1b4.other W (Ne.symm ne_a1_b36b23b1b4)
        have E_b36b23b1b4 := E_b36b23b1b4.wr W
        have N := Fr.snoc X N g_a1
        have K := K.wr W (Or.inl (List.mem_of_getElem? (i := 0) rfl))
        have Zs := Nat.le_trans Zs (Keep.of_wr W).1
        refine own_ret X hx hby hret hlk d3_57 (by decide) (by decide) ?_
        rw [eT]
        exact ⟨b36b23b1b4, 6, (updI (updI (updI (updI (updI (updI (fun _ => (0 : Int32)) 0 (nar .byte (((ar_a2 0) >>> ((0 : Int32) &&& 31)).toInt8.toInt32))) 1 (nar .byte (((ar_a2 0) >>> ((8 : Int32) &&& 31)).toInt8.toInt32))) 2 (nar .byte (((ar_a2 1) >>> ((0 : Int32) &&& 31)).toInt8.toInt32))) 3 (nar .byte (((ar_a2 1) >>> ((8 : Int32) &&& 31)).toInt8.toInt32))) 4 (nar .byte (((ar_a2 2) >>> ((0 : Int32) &&& 31)).toInt8.toInt32))) 5 (nar .byte (((ar_a2 2) >>> ((8 : Int32) &&& 31)).toInt8.toInt32))), (nar .byte (1 : Int32)), rfl, N, K, E_a1, F_value_a1, F_coder_a1, A_b36b23b1b4, Or.inr ⟨by decide, rfl, own_all3 (own_utfE (ar_a2 0) (hrg 0)) (own_utfE (ar_a2 1) (hrg 1)) (own_utfE (ar_a2 2) (hrg 2))⟩⟩
      · skip
        refine own_callS X hx hby hZ (st := []) [(.ref a2), (.int (0 : Int32)), (.int (3 : Int32))] rfl hown (hw _ (List.mem_of_getElem? (i := 38) rfl)) (hw _ (List.mem_of_getElem? (i := 39) rfl)) (hw _ (List.mem_of_getElem? (i := 40) rfl)) (hw _ (List.mem_of_getElem? (i := 41) rfl)) (by decide) d3_36 (rm7_3_3 l Z a0 hw a2 ar_a2 h0 n0 Zs hk0 hk1 hk2 A_a2 E_a2 g_a2) eT pd_20 rfl (by rw [hml]; rfl) (by decide) 0 rfl (by decide) (by decide) (by decide) 39 rfl ?_
        intro T36 L9 v9 X hQ
        obtain ⟨h36, eT⟩ : ∃ z, T36.heap = z := ⟨_, rfl⟩
        rw [eT] at hQ
        have lt_a1 := E_a1.lt
        have lt_a2 := A_a2.lt
        obtain ⟨b36b1, rfl, N9, Kc, hs_b36b1, A_b36b1, E_b36b1⟩ := hQ
        have g_b36b1 : n0 ≤ b36b1 := Nat.le_trans Zs hs_b36b1
        have sz_b36b1 : h0.size ≤ b36b1 := Nat.le_trans K.1 hs_b36b1
        have ne_a1_b36b1 : a1 ≠ b36b1 := Nat.ne_of_lt (Nat.lt_of_lt_of_le lt_a1 hs_b36b1)
        have ne_a2_b36b1 : a2 ≠ b36b1 := Nat.ne_of_lt (Nat.lt_of_lt_of_le lt_a2 hs_b36b1)
        have A_a2 := A_a2.keep Kc nin0
        have E_a2 := E_a2.keep Kc
        have E_a1 := E_a1.keep Kc
        have F_value_a1 := F_value_a1.keep Kc nin0
        have F_coder_a1 := F_coder_a1.keep Kc nin0
        have K := K.trans Kc all0
        have Zs := Nat.le_trans Zs Kc.1
        have N := Fr.app N N9
        show Go p e below _ T36 (mkF m 39 #[.val (.ref a1), .val (.ref a2), .val (.int (0 : Int32)), .val (.int (3 : Int32)), .val .null, .unset] [(.ref b36b1)])
        refine own_astore X hx hby d3_39 rfl (l' := #[.val (.ref a1), .val (.ref a2), .val (.int (0 : Int32)), .val (.int (3 : Int32)), .val .null, .val (.ref b36b1)]) rfl 41 rfl ?_
        refine own_aloadN X hx hby (.ref a1) d3_41 rfl rfl 42 rfl ?_
        refine own_aload X hx hby (.ref b36b1) d3_42 rfl rfl 44 rfl ?_
        refine own_iloadN X hx hby (3 : Int32) d3_44 rfl 45 rfl ?_
        refine own_callS X hx hby hZ (st := [(.ref a1)]) [(.ref b36b1), (.int (3 : Int32))] rfl hown (hw _ (List.mem_of_getElem? (i := 45) rfl)) (hw _ (List.mem_of_getElem? (i := 46) rfl)) (hw _ (List.mem_of_getElem? (i := 40) rfl)) (hw _ (List.mem_of_getElem? (i := 47) rfl)) (by decide) d3_45 (rm9_3_3 l Z a0 hw b36b1 (updI (updI (updI (fun _ => (0 : Int32)) 0 (nar .byte ((ar_a2 0).toInt8.toInt32))) 1 (nar .byte ((ar_a2 1).toInt8.toInt32))) 2 (nar .byte ((ar_a2 2).toInt8.toInt32))) h36 n0 Zs A_b36b1 E_b36b1) eT pd_15 rfl (by rw [hml]; rfl) (by decide) 1 rfl (by decide) (by decide) (by decide) 48 rfl ?_
        intro T45 L9 v9 X hQ
        obtain ⟨rfl, N9, eT⟩ := hQ
        have N := Fr.app N N9
        show Go p e below _ T45 (mkF m 48 #[.val (.ref a1), .val (.ref a2), .val (.int (0 : Int32)), .val (.int (3 : Int32)), .val .null, .val (.ref b36b1)] [(.int (0 : Int32)), (.ref a1)])
        refine own_putFN X hx hby hZ hown (hw _ (List.mem_of_getElem? (i := 27) rfl)) Via.refl eT F_coder_a1 E_a1 (Or.inr ⟨(hw _ (List.mem_of_getElem? (i := 23) rfl)), rfl, hnm⟩) (hw _ (List.mem_of_getElem? (i := 7) rfl)) (ty := .byte) (v' := (.int (nar .byte (0 : Int32)))) (by decide) rfl (fits_nar_byte _) d3_48 51 rfl ?_
        intro T48 h48 X eT W
        have A_a2 := A_a2.other W ne_a2_a1
        have E_a2 := E_a2.wr W
        have E_a1 := E_a1.wr W
        have F_value_a1 := F_value_a1.other W (Or.inr (slot_ne (Or.inr (hw _ (List.mem_of_getElem? (i := 22) rfl))) (Or.inr (hw _ (List.mem_of_getElem? (i := 23) rfl))) (by decide) (t := (.array .byte)) (t' := .byte) (by decide) (by decide)))
        have F_coder_a1 := F_coder_a1.same W
        have A_b36b1 := A_b36b1.other W (Ne.symm ne_a1_b36b1)
        have E_b36b1 := E_b36b1.wr W
        have N := Fr.snoc X N g_a1
        have K := K.wr W (Or.inl (List.mem_of_getElem? (i := 0) rfl))
        have Zs := Nat.le_trans Zs (Keep.of_wr W).1
        refine own_aloadN X hx hby (.ref a1) d3_51 rfl rfl 52 rfl ?_
        refine own_aload X hx hby (.ref b36b1) d3_52 rfl rfl 54 rfl ?_
        refine own_putF X hx hby hZ hown (host := "") (Or.inl (hw _ (List.mem_of_getElem? (i := 26) rfl))) Via.refl eT F_value_a1 E_a1 (Or.inr ⟨(hw _ (List.mem_of_getElem? (i := 22) rfl)), rfl, hnm⟩) (hw _ (List.mem_of_getElem? (i := 7) rfl)) (ty := (.array .byte)) (by decide) rfl rfl d3_54 57 rfl ?_
        intro T54 h54 X eT W
        have A_a2 := A_a2.other W ne_a2_a1
        have E_a2 := E_a2.wr W
        have E_a1 := E_a1.wr W
        have F_value_a1 := F_value_a1.same W
        have F_coder_a1 := F_coder_a1.other W (Or.inr (slot_ne (Or.inr (hw _ (List.mem_of_getElem? (i := 23) rfl))) (Or.inr (hw _ (List.mem_of_getElem? (i := 22) rfl))) (by decide) (t := .byte) (t' := (.array .byte)) (by decide) (by decide)))
        have A_b36b1 := A_b36b1.other W (Ne.symm ne_a1_b36b1)
        have E_b36b1 := E_b36b1.wr W
        have N := Fr.snoc X N g_a1
        have K := K.wr W (Or.inl (List.mem_of_getElem? (i := 0) rfl))
        have Zs := Nat.le_trans Zs (Keep.of_wr W).1
        refine own_ret X hx hby hret hlk d3_57 (by decide) (by decide) ?_
        rw [eT]
        exact ⟨b36b1, 3, (updI (updI (updI (fun _ => (0 : Int32)) 0 (nar .byte ((ar_a2 0).toInt8.toInt32))) 1 (nar .byte ((ar_a2 1).toInt8.toInt32))) 2 (nar .byte ((ar_a2 2).toInt8.toInt32))), (nar .byte (0 : Int32)), rfl, N, K, E_a1, F_value_a1, F_coder_a1, A_b36b1, Or.inl ⟨by decide, rfl, own_all3 (own_latE (ar_a2 0) (hrg 0) hk0) (own_latE (ar_a2 1) (hrg 1) hk1) (own_latE (ar_a2 2) (hrg 2) hk2)⟩⟩
theorem ef_3_4 (a1 : Addr) (a2 : Addr) (m : MethodId) : entryFrame m #[(.ref a1), (.ref a2), (.int (0 : Int32)), (.int (4 : Int32)), .null] 6 = mkF m 0 #[.val (.ref a1), .val (.ref a2), .val (.int (0 : Int32)), .val (.int (4 : Int32)), .val .null, .unset] [] := by first | (simp [entryFrame, mkF, argsToLocals, Value.category]; done) | rfl
def Q3_4 (Z : State) (a1 : Addr) (a2 : Addr) (ar_a2 : Nat → Int32) (w_value_a1 : Value) (w_coder_a1 : Int32) (u_COMPACT_STRINGS : Int32) (h0 : Heap) (n0 : Nat) (v : Option Value) (h : Heap) (L : List Loc) : Prop := ∃ (r : Addr) (nb : Nat) (gg : Nat → Int32) (cd : Int32), v = none ∧ Fr n0 L ∧ Keep h0 h [a1] ∧ Exa Z h a1 "java/lang/String" ∧ Fld Z h a1 "java/lang/String" "value" "[B" (.ref r) ∧ Fld Z h a1 "java/lang/String" "coder" "B" (.int cd) ∧ Afi Z h r .byte nb gg ∧ own_str 4 ar_a2 cd nb gg
set_option maxRecDepth 65536 in
set_option maxHeartbeats 40000000 in
theorem rm3_4 (l : Launch) (Z : State) (a0 : Array Value) (hw : ∀ d ∈ tables_1, d.before a0 Z = true) (a1 : Addr) (a2 : Addr) (ar_a2 : Nat → Int32) (w_value_a1 : Value) (w_coder_a1 : Int32) (u_COMPACT_STRINGS : Int32) (h0 : Heap) (n0 : Nat) (Zs : n0 ≤ h0.size) (hcs : ¬ u_COMPACT_STRINGS = (0 : Int32)) (hrg : ∀ i, 0 ≤ (ar_a2 i).toInt ∧ (ar_a2 i).toInt < 65536) (A_a2 : Afi Z h0 a2 .char 4 ar_a2) (E_a2 : Exa Z h0 a2 "[C") (E_a1 : Exa Z h0 a1 "java/lang/String") (F_value_a1 : Fld Z h0 a1 "java/lang/String" "value" "[B" w_value_a1) (F_coder_a1 : Fld Z h0 a1 "java/lang/String" "coder" "B" (.int w_coder_a1)) (g_a1 : n0 ≤ a1) (S_COMPACT_STRINGS : Sta Z h0 "java/lang/String" "COMPACT_STRINGS" "Z" (.int u_COMPACT_STRINGS)) (S__assertionsDisabled : Sta Z h0 "java/lang/StringUTF16" "$assertionsDisabled" "Z" (.int (1 : Int32))) (S_HI_BYTE_SHIFT : Sta Z h0 "java/lang/StringUTF16" "HI_BYTE_SHIFT" "I" (.int (0 : Int32))) (S_LO_BYTE_SHIFT : Sta Z h0 "java/lang/StringUTF16" "LO_BYTE_SHIFT" "I" (.int (8 : Int32))) (g_a2 : n0 ≤ a2) (g_a2 : n0 ≤ a2) (g_a2 : n0 ≤ a2) (g_a2 : n0 ≤ a2) (g_a2 : n0 ≤ a2) :
    Met1 l Z (⟨"java/lang/String", "<init>", "([CIILjava/lang/Void;)V"⟩ : MethodName) jdk_42_method_149_code 6 none ({ frames := 4, cells := 2, slots := 12, locals := 57 } : Room) #[(.ref a1), (.ref a2), (.int (0 : Int32)), (.int (4 : Int32)), .null] h0 (Q3_4 Z a1 a2 ar_a2 w_value_a1 w_coder_a1 u_COMPACT_STRINGS h0 n0) := by
  refine own_met_of (plainFor_of_name pn_12) (ef_3_4 a1 a2) ?_
  intro p e s m below meth c s₁ X hx hby hml hZ hown hnm hret hlk eT
  have hown : s.vm.findClass "java/lang/String" = some m.cls := hown
  have N := Fr.nil n0
  have K := Keep.refl h0 [a1]
  have ne_a2_a1 : a2 ≠ a1 := ne_exa E_a2 E_a1 (by decide)
  refine own_aloadN X hx hby (.ref a1) d3_0 rfl rfl 1 rfl ?_
  refine own_initO X hx hby hZ hown (hw _ (List.mem_of_getElem? (i := 17) rfl)) (hw _ (List.mem_of_getElem? (i := 18) rfl)) (hw _ (List.mem_of_getElem? (i := 19) rfl)) eT (by rw [hml]; rfl) d3_1 (by decide) 0 rfl (by decide) 4 rfl ?_
  intro T1 X eT
  refine own_iloadN X hx hby (4 : Int32) d3_4 rfl 5 rfl ?_
  have c5 : ¬ (4 : Int32) = (0 : Int32) := by decide
  refine own_if_ne X hx hby d3_5 27 8 (by decide) rfl (fun _ => ?_) (fun q => absurd q c5)
  refine own_getS X hx hby hZ hown (host := "") (Or.inl (hw _ (List.mem_of_getElem? (i := 37) rfl))) Via.refl eT S_COMPACT_STRINGS d3_27 30 rfl ?_
  intro T27 X eT
  have c30 : ¬ u_COMPACT_STRINGS = (0 : Int32) := hcs
  refine own_if_eq X hx hby d3_30 58 33 (by decide) rfl (fun q => absurd q c30) (fun _ => ?_)
  refine own_aloadN X hx hby (.ref a2) d3_33 rfl rfl 34 rfl ?_
  refine own_iloadN X hx hby (0 : Int32) d3_34 rfl 35 rfl ?_
  refine own_iloadN X hx hby (4 : Int32) d3_35 rfl 36 rfl ?_
  by_cases hk0 : (255 : Int32) < (ar_a2 0)
  · skip
    refine own_callS X hx hby hZ (st := []) [(.ref a2), (.int (0 : Int32)), (.int (4 : Int32))] rfl hown (hw _ (List.mem_of_getElem? (i := 38) rfl)) (hw _ (List.mem_of_getElem? (i := 39) rfl)) (hw _ (List.mem_of_getElem? (i := 40) rfl)) (hw _ (List.mem_of_getElem? (i := 41) rfl)) (by decide) d3_36 (rm7_4_0 l Z a0 hw a2 ar_a2 h0 n0 Zs hk0 hrg A_a2 E_a2 S__assertionsDisabled S_HI_BYTE_SHIFT S_LO_BYTE_SHIFT g_a2) eT pd_20 rfl (by rw [hml]; rfl) (by decide) 0 rfl (by decide) (by decide) (by decide) 39 rfl ?_
    intro T36 L9 v9 X hQ
    obtain ⟨h36, eT⟩ : ∃ z, T36.heap = z := ⟨_, rfl⟩
    rw [eT] at hQ
    have lt_a1 := E_a1.lt
    have lt_a2 := A_a2.lt
    obtain ⟨b36b1, b36b23b1b4, rfl, N9, Kc, hs_b36b1, hs_b36b23b1b4, A_b36b1, E_b36b1, A_b36b23b1b4, E_b36b23b1b4⟩ := hQ
    have g_b36b1 : n0 ≤ b36b1 := Nat.le_trans Zs hs_b36b1
    have sz_b36b1 : h0.size ≤ b36b1 := Nat.le_trans K.1 hs_b36b1
    have ne_a1_b36b1 : a1 ≠ b36b1 := Nat.ne_of_lt (Nat.lt_of_lt_of_le lt_a1 hs_b36b1)
    have ne_a2_b36b1 : a2 ≠ b36b1 := Nat.ne_of_lt (Nat.lt_of_lt_of_le lt_a2 hs_b36b1)
    have g_b36b23b1b4 : n0 ≤ b36b23b1b4 := Nat.le_trans Zs hs_b36b23b1b4
    have sz_b36b23b1b4 : h0.size ≤ b36b23b1b4 := Nat.le_trans K.1 hs_b36b23b1b4
    have ne_a1_b36b23b1b4 : a1 ≠ b36b23b1b4 := Nat.ne_of_lt (Nat.lt_of_lt_of_le lt_a1 hs_b36b23b1b4)
    have ne_a2_b36b23b1b4 : a2 ≠ b36b23b1b4 := Nat.ne_of_lt (Nat.lt_of_lt_of_le lt_a2 hs_b36b23b1b4)
    have A_a2 := A_a2.keep Kc nin0
    have E_a2 := E_a2.keep Kc
    have E_a1 := E_a1.keep Kc
    have F_value_a1 := F_value_a1.keep Kc nin0
    have F_coder_a1 := F_coder_a1.keep Kc nin0
    have K := K.trans Kc all0
    have Zs := Nat.le_trans Zs Kc.1
    have N := Fr.app N N9
    show Go p e below _ T36 (mkF m 39 #[.val (.ref a1), .val (.ref a2), .val (.int (0 : Int32)), .val (.int (4 : Int32)), .val .null, .unset] [(.ref b36b23b1b4)])
    refine own_astore X hx hby d3_39 rfl (l' := #[.val (.ref a1), .val (.ref a2), .val (.int (0 : Int32)), .val (.int (4 : Int32)), .val .null, .val (.ref b36b23b1b4)]) rfl 41 rfl ?_
    refine own_aloadN X hx hby (.ref a1) d3_41 rfl rfl 42 rfl ?_
    refine own_aload X hx hby (.ref b36b23b1b4) d3_42 rfl rfl 44 rfl ?_
    refine own_iloadN X hx hby (4 : Int32) d3_44 rfl 45 rfl ?_
    refine own_callS X hx hby hZ (st := [(.ref a1)]) [(.ref b36b23b1b4), (.int (4 : Int32))] rfl hown (hw _ (List.mem_of_getElem? (i := 45) rfl)) (hw _ (List.mem_of_getElem? (i := 46) rfl)) (hw _ (List.mem_of_getElem? (i := 40) rfl)) (hw _ (List.mem_of_getElem? (i := 47) rfl)) (by decide) d3_45 (rm9_4_8 l Z a0 hw b36b23b1b4 (updI (updI (updI (updI (updI (updI (updI (updI (fun _ => (0 : Int32)) 0 (nar .byte (((ar_a2 0) >>> ((0 : Int32) &&& 31)).toInt8.toInt32))) 1 (nar .byte (((ar_a2 0) >>> ((8 : Int32) &&& 31)).toInt8.toInt32))) 2 (nar .byte (((ar_a2 1) >>> ((0 : Int32) &&& 31)).toInt8.toInt32))) 3 (nar .byte (((ar_a2 1) >>> ((8 : Int32) &&& 31)).toInt8.toInt32))) 4 (nar .byte (((ar_a2 2) >>> ((0 : Int32) &&& 31)).toInt8.toInt32))) 5 (nar .byte (((ar_a2 2) >>> ((8 : Int32) &&& 31)).toInt8.toInt32))) 6 (nar .byte (((ar_a2 3) >>> ((0 : Int32) &&& 31)).toInt8.toInt32))) 7 (nar .byte (((ar_a2 3) >>> ((8 : Int32) &&& 31)).toInt8.toInt32))) h36 n0 Zs A_b36b23b1b4 E_b36b23b1b4) eT pd_15 rfl (by rw [hml]; rfl) (by decide) 1 rfl (by decide) (by decide) (by decide) 48 rfl ?_
    intro T45 L9 v9 X hQ
    obtain ⟨rfl, N9, eT⟩ := hQ
    have N := Fr.app N N9
    show Go p e below _ T45 (mkF m 48 #[.val (.ref a1), .val (.ref a2), .val (.int (0 : Int32)), .val (.int (4 : Int32)), .val .null, .val (.ref b36b23b1b4)] [(.int (1 : Int32)), (.ref a1)])
    refine own_putFN X hx hby hZ hown (hw _ (List.mem_of_getElem? (i := 27) rfl)) Via.refl eT F_coder_a1 E_a1 (Or.inr ⟨(hw _ (List.mem_of_getElem? (i := 23) rfl)), rfl, hnm⟩) (hw _ (List.mem_of_getElem? (i := 7) rfl)) (ty := .byte) (v' := (.int (nar .byte (1 : Int32)))) (by decide) rfl (fits_nar_byte _) d3_48 51 rfl ?_
    intro T48 h48 X eT W
    have A_a2 := A_a2.other W ne_a2_a1
    have E_a2 := E_a2.wr W
    have E_a1 := E_a1.wr W
    have F_value_a1 := F_value_a1.other W (Or.inr (slot_ne (Or.inr (hw _ (List.mem_of_getElem? (i := 22) rfl))) (Or.inr (hw _ (List.mem_of_getElem? (i := 23) rfl))) (by decide) (t := (.array .byte)) (t' := .byte) (by decide) (by decide)))
    have F_coder_a1 := F_coder_a1.same W
    have A_b36b1 := A_b36b1.other W (Ne.symm ne_a1_b36b1)
    have E_b36b1 := E_b36b1.wr W
    have A_b36b23b1b4 := A_b36b23b1b4.other W (Ne.symm ne_a1_b36b23b1b4)
    have E_b36b23b1b4 := E_b36b23b1b4.wr W
    have N := Fr.snoc X N g_a1
    have K := K.wr W (Or.inl (List.mem_of_getElem? (i := 0) rfl))
    have Zs := Nat.le_trans Zs (Keep.of_wr W).1
    refine own_aloadN X hx hby (.ref a1) d3_51 rfl rfl 52 rfl ?_
    refine own_aload X hx hby (.ref b36b23b1b4) d3_52 rfl rfl 54 rfl ?_
    refine own_putF X hx hby hZ hown (host := "") (Or.inl (hw _ (List.mem_of_getElem? (i := 26) rfl))) Via.refl eT F_value_a1 E_a1 (Or.inr ⟨(hw _ (List.mem_of_getElem? (i := 22) rfl)), rfl, hnm⟩) (hw _ (List.mem_of_getElem? (i := 7) rfl)) (ty := (.array .byte)) (by decide) rfl rfl d3_54 57 rfl ?_
    intro T54 h54 X eT W
    have A_a2 := A_a2.other W ne_a2_a1
    have E_a2 := E_a2.wr W
    have E_a1 := E_a1.wr W
    have F_value_a1 := F_value_a1.same W
    have F_coder_a1 := F_coder_a1.other W (Or.inr (slot_ne (Or.inr (hw _ (List.mem_of_getElem? (i := 23) rfl))) (Or.inr (hw _ (List.mem_of_getElem? (i := 22) rfl))) (by decide) (t := .byte) (t' := (.array .byte)) (by decide) (by decide)))
    have A_b36b1 := A_b36b1.other W (Ne.symm ne_a1_b36b1)
    have E_b36b1 := E_b36b1.wr W
    have A_b36b23b1b4 := A_b36b23b1b4.other W (Ne.symm ne_a1_b36b23b1b4)
    have E_b36b23b1b4 := E_b36b23b1b4.wr W
    have N := Fr.snoc X N g_a1
    have K := K.wr W (Or.inl (List.mem_of_getElem? (i := 0) rfl))
    have Zs := Nat.le_trans Zs (Keep.of_wr W).1
    refine own_ret X hx hby hret hlk d3_57 (by decide) (by decide) ?_
    rw [eT]
    exact ⟨b36b23b1b4, 8, (updI (updI (updI (updI (updI (updI (updI (updI (fun _ => (0 : Int32)) 0 (nar .byte (((ar_a2 0) >>> ((0 : Int32) &&& 31)).toInt8.toInt32))) 1 (nar .byte (((ar_a2 0) >>> ((8 : Int32) &&& 31)).toInt8.toInt32))) 2 (nar .byte (((ar_a2 1) >>> ((0 : Int32) &&& 31)).toInt8.toInt32))) 3 (nar .byte (((ar_a2 1) >>> ((8 : Int32) &&& 31)).toInt8.toInt32))) 4 (nar .byte (((ar_a2 2) >>> ((0 : Int32) &&& 31)).toInt8.toInt32))) 5 (nar .byte (((ar_a2 2) >>> ((8 : Int32) &&& 31)).toInt8.toInt32))) 6 (nar .byte (((ar_a2 3) >>> ((0 : Int32) &&& 31)).toInt8.toInt32))) 7 (nar .byte (((ar_a2 3) >>> ((8 : Int32) &&& 31)).toInt8.toInt32))), (nar .byte (1 : Int32)), rfl, N, K, E_a1, F_value_a1, F_coder_a1, A_b36b23b1b4, Or.inr ⟨by decide, rfl, own_all4 (own_utfE (ar_a2 0) (hrg 0)) (own_utfE (ar_a2 1) (hrg 1)) (own_utfE (ar_a2 2) (hrg 2)) (own_utfE (ar_a2 3) (hrg 3))⟩⟩
  · skip
    by_cases hk1 : (255 : Int32) < (ar_a2 1)
    · skip
      refine own_callS X hx hby hZ (st := []) [(.ref a2), (.int (0 : Int32)), (.int (4 : Int32))] rfl hown (hw _ (List.mem_of_getElem? (i := 38) rfl)) (hw _ (List.mem_of_getElem? (i := 39) rfl)) (hw _ (List.mem_of_getElem? (i := 40) rfl)) (hw _ (List.mem_of_getElem? (i := 41) rfl)) (by decide) d3_36 (rm7_4_1 l Z a0 hw a2 ar_a2 h0 n0 Zs hk0 hk1 hrg A_a2 E_a2 S__assertionsDisabled S_HI_BYTE_SHIFT S_LO_BYTE_SHIFT g_a2) eT pd_20 rfl (by rw [hml]; rfl) (by decide) 0 rfl (by decide) (by decide) (by decide) 39 rfl ?_
      intro T36 L9 v9 X hQ
      obtain ⟨h36, eT⟩ : ∃ z, T36.heap = z := ⟨_, rfl⟩
      rw [eT] at hQ
      have lt_a1 := E_a1.lt
      have lt_a2 := A_a2.lt
      obtain ⟨b36b1, b36b23b1b4, rfl, N9, Kc, hs_b36b1, hs_b36b23b1b4, A_b36b1, E_b36b1, A_b36b23b1b4, E_b36b23b1b4⟩ := hQ
      have g_b36b1 : n0 ≤ b36b1 := Nat.le_trans Zs hs_b36b1
      have sz_b36b1 : h0.size ≤ b36b1 := Nat.le_trans K.1 hs_b36b1
      have ne_a1_b36b1 : a1 ≠ b36b1 := Nat.ne_of_lt (Nat.lt_of_lt_of_le lt_a1 hs_b36b1)
      have ne_a2_b36b1 : a2 ≠ b36b1 := Nat.ne_of_lt (Nat.lt_of_lt_of_le lt_a2 hs_b36b1)
      have g_b36b23b1b4 : n0 ≤ b36b23b1b4 := Nat.le_trans Zs hs_b36b23b1b4
      have sz_b36b23b1b4 : h0.size ≤ b36b23b1b4 := Nat.le_trans K.1 hs_b36b23b1b4
      have ne_a1_b36b23b1b4 : a1 ≠ b36b23b1b4 := Nat.ne_of_lt (Nat.lt_of_lt_of_le lt_a1 hs_b36b23b1b4)
      have ne_a2_b36b23b1b4 : a2 ≠ b36b23b1b4 := Nat.ne_of_lt (Nat.lt_of_lt_of_le lt_a2 hs_b36b23b1b4)
      have A_a2 := A_a2.keep Kc nin0
      have E_a2 := E_a2.keep Kc
      have E_a1 := E_a1.keep Kc
      have F_value_a1 := F_value_a1.keep Kc nin0
      have F_coder_a1 := F_coder_a1.keep Kc nin0
      have K := K.trans Kc all0
      have Zs := Nat.le_trans Zs Kc.1
      have N := Fr.app N N9
      show Go p e below _ T36 (mkF m 39 #[.val (.ref a1), .val (.ref a2), .val (.int (0 : Int32)), .val (.int (4 : Int32)), .val .null, .unset] [(.ref b36b23b1b4)])
      refine own_astore X hx hby d3_39 rfl (l' := #[.val (.ref a1), .val (.ref a2), .val (.int (0 : Int32)), .val (.int (4 : Int32)), .val .null, .val (.ref b36b23b1b4)]) rfl 41 rfl ?_
      refine own_aloadN X hx hby (.ref a1) d3_41 rfl rfl 42 rfl ?_
      refine own_aload X hx hby (.ref b36b23b1b4) d3_42 rfl rfl 44 rfl ?_
      refine own_iloadN X hx hby (4 : Int32) d3_44 rfl 45 rfl ?_
      refine own_callS X hx hby hZ (st := [(.ref a1)]) [(.ref b36b23b1b4), (.int (4 : Int32))] rfl hown (hw _ (List.mem_of_getElem? (i := 45) rfl)) (hw _ (List.mem_of_getElem? (i := 46) rfl)) (hw _ (List.mem_of_getElem? (i := 40) rfl)) (hw _ (List.mem_of_getElem? (i := 47) rfl)) (by decide) d3_45 (rm9_4_8 l Z a0 hw b36b23b1b4 (updI (updI (updI (updI (updI (updI (updI (updI (fun _ => (0 : Int32)) 0 (nar .byte (((ar_a2 0) >>> ((0 : Int32) &&& 31)).toInt8.toInt32))) 1 (nar .byte (((ar_a2 0) >>> ((8 : Int32) &&& 31)).toInt8.toInt32))) 2 (nar .byte (((ar_a2 1) >>> ((0 : Int32) &&& 31)).toInt8.toInt32))) 3 (nar .byte (((ar_a2 1) >>> ((8 : Int32) &&& 31)).toInt8.toInt32))) 4 (nar .byte (((ar_a2 2) >>> ((0 : Int32) &&& 31)).toInt8.toInt32))) 5 (nar .byte (((ar_a2 2) >>> ((8 : Int32) &&& 31)).toInt8.toInt32))) 6 (nar .byte (((ar_a2 3) >>> ((0 : Int32) &&& 31)).toInt8.toInt32))) 7 (nar .byte (((ar_a2 3) >>> ((8 : Int32) &&& 31)).toInt8.toInt32))) h36 n0 Zs A_b36b23b1b4 E_b36b23b1b4) eT pd_15 rfl (by rw [hml]; rfl) (by decide) 1 rfl (by decide) (by decide) (by decide) 48 rfl ?_
      intro T45 L9 v9 X hQ
      obtain ⟨rfl, N9, eT⟩ := hQ
      have N := Fr.app N N9
      show Go p e below _ T45 (mkF m 48 #[.val (.ref a1), .val (.ref a2), .val (.int (0 : Int32)), .val (.int (4 : Int32)), .val .null, .val (.ref b36b23b1b4)] [(.int (1 : Int32)), (.ref a1)])
      refine own_putFN X hx hby hZ hown (hw _ (List.mem_of_getElem? (i := 27) rfl)) Via.refl eT F_coder_a1 E_a1 (Or.inr ⟨(hw _ (List.mem_of_getElem? (i := 23) rfl)), rfl, hnm⟩) (hw _ (List.mem_of_getElem? (i := 7) rfl)) (ty := .byte) (v' := (.int (nar .byte (1 : Int32)))) (by decide) rfl (fits_nar_byte _) d3_48 51 rfl ?_
      intro T48 h48 X eT W
      have A_a2 := A_a2.other W ne_a2_a1
      have E_a2 := E_a2.wr W
      have E_a1 := E_a1.wr W
      have F_value_a1 := F_value_a1.other W (Or.inr (slot_ne (Or.inr (hw _ (List.mem_of_getElem? (i := 22) rfl))) (Or.inr (hw _ (List.mem_of_getElem? (i := 23) rfl))) (by decide) (t := (.array .byte)) (t' := .byte) (by decide) (by decide)))
      have F_coder_a1 := F_coder_a1.same W
      have A_b36b1 := A_b36b1.other W (Ne.symm ne_a1_b36b1)
      have E_b36b1 := E_b36b1.wr W
      have A_b36b23b1b4 := A_b36b23b1b4.other W (Ne.symm ne_a1_b36b23b1b4)
      have E_b36b23b1b4 := E_b36b23b1b4.wr W
      have N := Fr.snoc X N g_a1
      have K := K.wr W (Or.inl (List.mem_of_getElem? (i := 0) rfl))
      have Zs := Nat.le_trans Zs (Keep.of_wr W).1
      refine own_aloadN X hx hby (.ref a1) d3_51 rfl rfl 52 rfl ?_
      refine own_aload X hx hby (.ref b36b23b1b4) d3_52 rfl rfl 54 rfl ?_
      refine own_putF X hx hby hZ hown (host := "") (Or.inl (hw _ (List.mem_of_getElem? (i := 26) rfl))) Via.refl eT F_value_a1 E_a1 (Or.inr ⟨(hw _ (List.mem_of_getElem? (i := 22) rfl)), rfl, hnm⟩) (hw _ (List.mem_of_getElem? (i := 7) rfl)) (ty := (.array .byte)) (by decide) rfl rfl d3_54 57 rfl ?_
      intro T54 h54 X eT W
      have A_a2 := A_a2.other W ne_a2_a1
      have E_a2 := E_a2.wr W
      have E_a1 := E_a1.wr W
      have F_value_a1 := F_value_a1.same W
      have F_coder_a1 := F_coder_a1.other W (Or.inr (slot_ne (Or.inr (hw _ (List.mem_of_getElem? (i := 23) rfl))) (Or.inr (hw _ (List.mem_of_getElem? (i := 22) rfl))) (by decide) (t := .byte) (t' := (.array .byte)) (by decide) (by decide)))
      have A_b36b1 := A_b36b1.other W (Ne.symm ne_a1_b36b1)
      have E_b36b1 := E_b36b1.wr W
      have A_b36b23b1b4 := A_b36b23b1b4.other W (Ne.symm ne_a1_b36b23b1b4)
      have E_b36b23b1b4 := E_b36b23b1b4.wr W
      have N := Fr.snoc X N g_a1
      have K := K.wr W (Or.inl (List.mem_of_getElem? (i := 0) rfl))
      have Zs := Nat.le_trans Zs (Keep.of_wr W).1
      refine own_ret X hx hby hret hlk d3_57 (by decide) (by decide) ?_
      rw [eT]
      exact ⟨b36b23b1b4, 8, (updI (updI (updI (updI (updI (updI (updI (updI (fun _ => (0 : Int32)) 0 (nar .byte (((ar_a2 0) >>> ((0 : Int32) &&& 31)).toInt8.toInt32))) 1 (nar .byte (((ar_a2 0) >>> ((8 : Int32) &&& 31)).toInt8.toInt32))) 2 (nar .byte (((ar_a2 1) >>> ((0 : Int32) &&& 31)).toInt8.toInt32))) 3 (nar .byte (((ar_a2 1) >>> ((8 : Int32) &&& 31)).toInt8.toInt32))) 4 (nar .byte (((ar_a2 2) >>> ((0 : Int32) &&& 31)).toInt8.toInt32))) 5 (nar .byte (((ar_a2 2) >>> ((8 : Int32) &&& 31)).toInt8.toInt32))) 6 (nar .byte (((ar_a2 3) >>> ((0 : Int32) &&& 31)).toInt8.toInt32))) 7 (nar .byte (((ar_a2 3) >>> ((8 : Int32) &&& 31)).toInt8.toInt32))), (nar .byte (1 : Int32)), rfl, N, K, E_a1, F_value_a1, F_coder_a1, A_b36b23b1b4, Or.inr ⟨by decide, rfl, own_all4 (own_utfE (ar_a2 0) (hrg 0)) (own_utfE (ar_a2 1) (hrg 1)) (own_utfE (ar_a2 2) (hrg 2)) (own_utfE (ar_a2 3) (hrg 3))⟩⟩
    · skip
      by_cases hk2 : (255 : Int32) < (ar_a2 2)
      · skip
        refine own_callS X hx hby hZ (st := []) [(.ref a2), (.int (0 : Int32)), (.int (4 : Int32))] rfl hown (hw _ (List.mem_of_getElem? (i := 38) rfl)) (hw _ (List.mem_of_getElem? (i := 39) rfl)) (hw _ (List.mem_of_getElem? (i := 40) rfl)) (hw _ (List.mem_of_getElem? (i := 41) rfl)) (by decide) d3_36 (rm7_4_2 l Z a0 hw a2 ar_a2 h0 n0 Zs hk0 hk1 hk2 hrg A_a2 E_a2 S__assertionsDisabled S_HI_BYTE_SHIFT S_LO_BYTE_SHIFT g_a2) eT pd_20 rfl (by rw [hml]; rfl) (by decide) 0 rfl (by decide) (by decide) (by decide) 39 rfl ?_
        intro T36 L9 v9 X hQ
        obtain ⟨h36, eT⟩ : ∃ z, T36.heap = z := ⟨_, rfl⟩
        rw [eT] at hQ
        have lt_a1 := E_a1.lt
        have lt_a2 := A_a2.lt
        obtain ⟨b36b1, b36b23b1b4, rfl, N9, Kc, hs_b36b1, hs_b36b23b1b4, A_b36b1, E_b36b1, A_b36b23b1b4, E_b36b23b1b4⟩ := hQ
        have g_b36b1 : n0 ≤ b36b1 := Nat.le_trans Zs hs_b36b1
        have sz_b36b1 : h0.size ≤ b36b1 := Nat.le_trans K.1 hs_b36b1
        have ne_a1_b36b1 : a1 ≠ b36b1 := Nat.ne_of_lt (Nat.lt_of_lt_of_le lt_a1 hs_b36b1)
        have ne_a2_b36b1 : a2 ≠ b36b1 := Nat.ne_of_lt (Nat.lt_of_lt_of_le lt_a2 hs_b36b1)
        have g_b36b23b1b4 : n0 ≤ b36b23b1b4 := Nat.le_trans Zs hs_b36b23b1b4
        have sz_b36b23b1b4 : h0.size ≤ b36b23b1b4 := Nat.le_trans K.1 hs_b36b23b1b4
        have ne_a1_b36b23b1b4 : a1 ≠ b36b23b1b4 := Nat.ne_of_lt (Nat.lt_of_lt_of_le lt_a1 hs_b36b23b1b4)
        have ne_a2_b36b23b1b4 : a2 ≠ b36b23b1b4 := Nat.ne_of_lt (Nat.lt_of_lt_of_le lt_a2 hs_b36b23b1b4)
        have A_a2 := A_a2.keep Kc nin0
        have E_a2 := E_a2.keep Kc
        have E_a1 := E_a1.keep Kc
        have F_value_a1 := F_value_a1.keep Kc nin0
        have F_coder_a1 := F_coder_a1.keep Kc nin0
        have K := K.trans Kc all0
        have Zs := Nat.le_trans Zs Kc.1
        have N := Fr.app N N9
        show Go p e below _ T36 (mkF m 39 #[.val (.ref a1), .val (.ref a2), .val (.int (0 : Int32)), .val (.int (4 : Int32)), .val .null, .unset] [(.ref b36b23b1b4)])
        refine own_astore X hx hby d3_39 rfl (l' := #[.val (.ref a1), .val (.ref a2), .val (.int (0 : Int32)), .val (.int (4 : Int32)), .val .null, .val (.ref b36b23b1b4)]) rfl 41 rfl ?_
        refine own_aloadN X hx hby (.ref a1) d3_41 rfl rfl 42 rfl ?_
        refine own_aload X hx hby (.ref b36b23b1b4) d3_42 rfl rfl 44 rfl ?_
        refine own_iloadN X hx hby (4 : Int32) d3_44 rfl 45 rfl ?_
        refine own_callS X hx hby hZ (st := [(.ref a1)]) [(.ref b36b23b1b4), (.int (4 : Int32))] rfl hown (hw _ (List.mem_of_getElem? (i := 45) rfl)) (hw _ (List.mem_of_getElem? (i := 46) rfl)) (hw _ (List.mem_of_getElem? (i := 40) rfl)) (hw _ (List.mem_of_getElem? (i := 47) rfl)) (by decide) d3_45 (rm9_4_8 l Z a0 hw b36b23b1b4 (updI (updI (updI (updI (updI (updI (updI (updI (fun _ => (0 : Int32)) 0 (nar .byte (((ar_a2 0) >>> ((0 : Int32) &&& 31)).toInt8.toInt32))) 1 (nar .byte (((ar_a2 0) >>> ((8 : Int32) &&& 31)).toInt8.toInt32))) 2 (nar .byte (((ar_a2 1) >>> ((0 : Int32) &&& 31)).toInt8.toInt32))) 3 (nar .byte (((ar_a2 1) >>> ((8 : Int32) &&& 31)).toInt8.toInt32))) 4 (nar .byte (((ar_a2 2) >>> ((0 : Int32) &&& 31)).toInt8.toInt32))) 5 (nar .byte (((ar_a2 2) >>> ((8 : Int32) &&& 31)).toInt8.toInt32))) 6 (nar .byte (((ar_a2 3) >>> ((0 : Int32) &&& 31)).toInt8.toInt32))) 7 (nar .byte (((ar_a2 3) >>> ((8 : Int32) &&& 31)).toInt8.toInt32))) h36 n0 Zs A_b36b23b1b4 E_b36b23b1b4) eT pd_15 rfl (by rw [hml]; rfl) (by decide) 1 rfl (by decide) (by decide) (by decide) 48 rfl ?_
        intro T45 L9 v9 X hQ
        obtain ⟨rfl, N9, eT⟩ := hQ
        have N := Fr.app N N9
        show Go p e below _ T45 (mkF m 48 #[.val (.ref a1), .val (.ref a2), .val (.int (0 : Int32)), .val (.int (4 : Int32)), .val .null, .val (.ref b36b23b1b4)] [(.int (1 : Int32)), (.ref a1)])
        refine own_putFN X hx hby hZ hown (hw _ (List.mem_of_getElem? (i := 27) rfl)) Via.refl eT F_coder_a1 E_a1 (Or.inr ⟨(hw _ (List.mem_of_getElem? (i := 23) rfl)), rfl, hnm⟩) (hw _ (List.mem_of_getElem? (i := 7) rfl)) (ty := .byte) (v' := (.int (nar .byte (1 : Int32)))) (by decide) rfl (fits_nar_byte _) d3_48 51 rfl ?_
        intro T48 h48 X eT W
        have A_a2 := A_a2.other W ne_a2_a1
        have E_a2 := E_a2.wr W
        have E_a1 := E_a1.wr W
        have F_value_a1 := F_value_a1.other W (Or.inr (slot_ne (Or.inr (hw _ (List.mem_of_getElem? (i := 22) rfl))) (Or.inr (hw _ (List.mem_of_getElem? (i := 23) rfl))) (by decide) (t := (.array .byte)) (t' := .byte) (by decide) (by decide)))
        have F_coder_a1 := F_coder_a1.same W
        have A_b36b1 := A_b36b1.other W (Ne.symm ne_a1_b36b1)
        have E_b36b1 := E_b36b1.wr W
        have A_b36b23b1b4 := A_b36b23b1b4.other W (Ne.symm ne_a1_b36b23b1b4)
        have E_b36b23b1b4 := E_b36b23b1b4.wr W
        have N := Fr.snoc X N g_a1
        have K := K.wr W (Or.inl (List.mem_of_getElem? (i := 0) rfl))
        have Zs := Nat.le_trans Zs (Keep.of_wr W).1
        refine own_aloadN X hx hby (.ref a1) d3_51 rfl rfl 52 rfl ?_
        refine own_aload X hx hby (.ref b36b23b1b4) d3_52 rfl rfl 54 rfl ?_
        refine own_putF X hx hby hZ hown (host := "") (Or.inl (hw _ (List.mem_of_getElem? (i := 26) rfl))) Via.refl eT F_value_a1 E_a1 (Or.inr ⟨(hw _ (List.mem_of_getElem? (i := 22) rfl)), rfl, hnm⟩) (hw _ (List.mem_of_getElem? (i := 7) rfl)) (ty := (.array .byte)) (by decide) rfl rfl d3_54 57 rfl ?_
        intro T54 h54 X eT W
        have A_a2 := A_a2.other W ne_a2_a1
        have E_a2 := E_a2.wr W
        have E_a1 := E_a1.wr W
        have F_value_a1 := F_value_a1.same W
        have F_coder_a1 := F_coder_a1.other W (Or.inr (slot_ne (Or.inr (hw _ (List.mem_of_getElem? (i := 23) rfl))) (Or.inr (hw _ (List.mem_of_getElem? (i := 22) rfl))) (by decide) (t := .byte) (t' := (.array .byte)) (by decide) (by decide)))
        have A_b36b1 := A_b36b1.other W (Ne.symm ne_a1_b36b1)
        have E_b36b1 := E_b36b1.wr W
        have A_b36b23b1b4 := A_b36b23b1b4.other W (Ne.symm ne_a1_b36b23b1b4)
        have E_b36b23b1b4 := E_b36b23b1b4.wr W
        have N := Fr.snoc X N g_a1
        have K := K.wr W (Or.inl (List.mem_of_getElem? (i := 0) rfl))
        have Zs := Nat.le_trans Zs (Keep.of_wr W).1
        refine own_ret X hx hby hret hlk d3_57 (by decide) (by decide) ?_
        rw [eT]
        exact ⟨b36b23b1b4, 8, (updI (updI (updI (updI (updI (updI (updI (updI (fun _ => (0 : Int32)) 0 (nar .byte (((ar_a2 0) >>> ((0 : Int32) &&& 31)).toInt8.toInt32))) 1 (nar .byte (((ar_a2 0) >>> ((8 : Int32) &&& 31)).toInt8.toInt32))) 2 (nar .byte (((ar_a2 1) >>> ((0 : Int32) &&& 31)).toInt8.toInt32))) 3 (nar .byte (((ar_a2 1) >>> ((8 : Int32) &&& 31)).toInt8.toInt32))) 4 (nar .byte (((ar_a2 2) >>> ((0 : Int32) &&& 31)).toInt8.toInt32))) 5 (nar .byte (((ar_a2 2) >>> ((8 : Int32) &&& 31)).toInt8.toInt32))) 6 (nar .byte (((ar_a2 3) >>> ((0 : Int32) &&& 31)).toInt8.toInt32))) 7 (nar .byte (((ar_a2 3) >>> ((8 : Int32) &&& 31)).toInt8.toInt32))), (nar .byte (1 : Int32)), rfl, N, K, E_a1, F_value_a1, F_coder_a1, A_b36b23b1b4, Or.inr ⟨by decide, rfl, own_all4 (own_utfE (ar_a2 0) (hrg 0)) (own_utfE (ar_a2 1) (hrg 1)) (own_utfE (ar_a2 2) (hrg 2)) (own_utfE (ar_a2 3) (hrg 3))⟩⟩
      · skip
        by_cases hk3 : (255 : Int32) < (ar_a2 3)
        · skip
          refine own_callS X hx hby hZ (st := []) [(.ref a2), (.int (0 : Int32)), (.int (4 : Int32))] rfl hown (hw _ (List.mem_of_getElem? (i := 38) rfl)) (hw _ (List.mem_of_getElem? (i := 39) rfl)) (hw _ (List.mem_of_getElem? (i := 40) rfl)) (hw _ (List.mem_of_getElem? (i := 41) rfl)) (by decide) d3_36 (rm7_4_3 l Z a0 hw a2 ar_a2 h0 n0 Zs hk0 hk1 hk2 hk3 hrg A_a2 E_a2 S__assertionsDisabled S_HI_BYTE_SHIFT S_LO_BYTE_SHIFT g_a2) eT pd_20 rfl (by rw [hml]; rfl) (by decide) 0 rfl (by decide) (by decide) (by decide) 39 rfl ?_
          intro T36 L9 v9 X hQ
          obtain ⟨h36, eT⟩ : ∃ z, T36.heap = z := ⟨_, rfl⟩
          rw [eT] at hQ
          have lt_a1 := E_a1.lt
          have lt_a2 := A_a2.lt
          obtain ⟨b36b1, b36b23b1b4, rfl, N9, Kc, hs_b36b1, hs_b36b23b1b4, A_b36b1, E_b36b1, A_b36b23b1b4, E_b36b23b1b4⟩ := hQ
          have g_b36b1 : n0 ≤ b36b1 := Nat.le_trans Zs hs_b36b1
          have sz_b36b1 : h0.size ≤ b36b1 := Nat.le_trans K.1 hs_b36b1
          have ne_a1_b36b1 : a1 ≠ b36b1 := Nat.ne_of_lt (Nat.lt_of_lt_of_le lt_a1 hs_b36b1)
          have ne_a2_b36b1 : a2 ≠ b36b1 := Nat.ne_of_lt (Nat.lt_of_lt_of_le lt_a2 hs_b36b1)
          have g_b36b23b1b4 : n0 ≤ b36b23b1b4 := Nat.le_trans Zs hs_b36b23b1b4
          have sz_b36b23b1b4 : h0.size ≤ b36b23b1b4 := Nat.le_trans K.1 hs_b36b23b1b4
          have ne_a1_b36b23b1b4 : a1 ≠ b36b23b1b4 := Nat.ne_of_lt (Nat.lt_of_lt_of_le lt_a1 hs_b36b23b1b4)
          have ne_a2_b36b23b1b4 : a2 ≠ b36b23b1b4 := Nat.ne_of_lt (Nat.lt_of_lt_of_le lt_a2 hs_b36b23b1b4)
          have A_a2 := A_a2.keep Kc nin0
          have E_a2 := E_a2.keep Kc
          have E_a1 := E_a1.keep Kc
          have F_value_a1 := F_value_a1.keep Kc nin0
          have F_coder_a1 := F_coder_a1.keep Kc nin0
          have K := K.trans Kc all0
          have Zs := Nat.le_trans Zs Kc.1
          have N := Fr.app N N9
          show Go p e below _ T36 (mkF m 39 #[.val (.ref a1), .val (.ref a2), .val (.int (0 : Int32)), .val (.int (4 : Int32)), .val .null, .unset] [(.ref b36b23b1b4)])
          refine own_astore X hx hby d3_39 rfl (l' := #[.val (.ref a1), .val (.ref a2), .val (.int (0 : Int32)), .val (.int (4 : Int32)), .val .null, .val (.ref b36b23b1b4)]) rfl 41 rfl ?_
          refine own_aloadN X hx hby (.ref a1) d3_41 rfl rfl 42 rfl ?_
          refine own_aload X hx hby (.ref b36b23b1b4) d3_42 rfl rfl 44 rfl ?_
          refine own_iloadN X hx hby (4 : Int32) d3_44 rfl 45 rfl ?_
          refine own_callS X hx hby hZ (st := [(.ref a1)]) [(.ref b36b23b1b4), (.int (4 : Int32))] rfl hown (hw _ (List.mem_of_getElem? (i := 45) rfl)) (hw _ (List.mem_of_getElem? (i := 46) rfl)) (hw _ (List.mem_of_getElem? (i := 40) rfl)) (hw _ (List.mem_of_getElem? (i := 47) rfl)) (by decide) d3_45 (rm9_4_8 l Z a0 hw b36b23b1b4 (updI (updI (updI (updI (updI (updI (updI (updI (fun _ => (0 : Int32)) 0 (nar .byte (((ar_a2 0) >>> ((0 : Int32) &&& 31)).toInt8.toInt32))) 1 (nar .byte (((ar_a2 0) >>> ((8 : Int32) &&& 31)).toInt8.toInt32))) 2 (nar .byte (((ar_a2 1) >>> ((0 : Int32) &&& 31)).toInt8.toInt32))) 3 (nar .byte (((ar_a2 1) >>> ((8 : Int32) &&& 31)).toInt8.toInt32))) 4 (nar .byte (((ar_a2 2) >>> ((0 : Int32) &&& 31)).toInt8.toInt32))) 5 (nar .byte (((ar_a2 2) >>> ((8 : Int32) &&& 31)).toInt8.toInt32))) 6 (nar .byte (((ar_a2 3) >>> ((0 : Int32) &&& 31)).toInt8.toInt32))) 7 (nar .byte (((ar_a2 3) >>> ((8 : Int32) &&& 31)).toInt8.toInt32))) h36 n0 Zs A_b36b23b1b4 E_b36b23b1b4) eT pd_15 rfl (by rw [hml]; rfl) (by decide) 1 rfl (by decide) (by decide) (by decide) 48 rfl ?_
          intro T45 L9 v9 X hQ
          obtain ⟨rfl, N9, eT⟩ := hQ
          have N := Fr.app N N9
          show Go p e below _ T45 (mkF m 48 #[.val (.ref a1), .val (.ref a2), .val (.int (0 : Int32)), .val (.int (4 : Int32)), .val .null, .val (.ref b36b23b1b4)] [(.int (1 : Int32)), (.ref a1)])
          refine own_putFN X hx hby hZ hown (hw _ (List.mem_of_getElem? (i := 27) rfl)) Via.refl eT F_coder_a1 E_a1 (Or.inr ⟨(hw _ (List.mem_of_getElem? (i := 23) rfl)), rfl, hnm⟩) (hw _ (List.mem_of_getElem? (i := 7) rfl)) (ty := .byte) (v' := (.int (nar .byte (1 : Int32)))) (by decide) rfl (fits_nar_byte _) d3_48 51 rfl ?_
          intro T48 h48 X eT W
          have A_a2 := A_a2.other W ne_a2_a1
          have E_a2 := E_a2.wr W
          have E_a1 := E_a1.wr W
          have F_value_a1 := F_value_a1.other W (Or.inr (slot_ne (Or.inr (hw _ (List.mem_of_getElem? (i := 22) rfl))) (Or.inr (hw _ (List.mem_of_getElem? (i := 23) rfl))) (by decide) (t := (.array .byte)) (t' := .byte) (by decide) (by decide)))
          have F_coder_a1 := F_coder_a1.same W
          have A_b36b1 := A_b36b1.other W (Ne.symm ne_a1_b36b1)
          have E_b36b1 := E_b36b1.wr W
          have A_b36b23b1b4 := A_b36b23b1b4.other W (Ne.symm ne_a1_b36b23b1b4)
          have E_b36b23b1b4 := E_b36b23b1b4.wr W
          have N := Fr.snoc X N g_a1
          have K := K.wr W (Or.inl (List.mem_of_getElem? (i := 0) rfl))
          have Zs := Nat.le_trans Zs (Keep.of_wr W).1
          refine own_aloadN X hx hby (.ref a1) d3_51 rfl rfl 52 rfl ?_
          refine own_aload X hx hby (.ref b36b23b1b4) d3_52 rfl rfl 54 rfl ?_
          refine own_putF X hx hby hZ hown (host := "") (Or.inl (hw _ (List.mem_of_getElem? (i := 26) rfl))) Via.refl eT F_value_a1 E_a1 (Or.inr ⟨(hw _ (List.mem_of_getElem? (i := 22) rfl)), rfl, hnm⟩) (hw _ (List.mem_of_getElem? (i := 7) rfl)) (ty := (.array .byte)) (by decide) rfl rfl d3_54 57 rfl ?_
          intro T54 h54 X eT W
          have A_a2 := A_a2.other W ne_a2_a1
          have E_a2 := E_a2.wr W
          have E_a1 := E_a1.wr W
          have F_value_a1 := F_value_a1.same W
          have F_coder_a1 := F_coder_a1.other W (Or.inr (slot_ne (Or.inr (hw _ (List.mem_of_getElem? (i := 23) rfl))) (Or.inr (hw _ (List.mem_of_getElem? (i := 22) rfl))) (by decide) (t := .byte) (t' := (.array .byte)) (by decide) (by decide)))
          have A_b36b1 := A_b36b1.other W (Ne.symm ne_a1_b36b1)
          have E_b36b1 := E_b36b1.wr W
          have A_b36b23b1b4 := A_b36b23b1b4.other W (Ne.symm ne_a1_b36b23b1b4)
          have E_b36b23b1b4 := E_b36b23b1b4.wr W
          have N := Fr.snoc X N g_a1
          have K := K.wr W (Or.inl (List.mem_of_getElem? (i := 0) rfl))
          have Zs := Nat.le_trans Zs (Keep.of_wr W).1
          refine own_ret X hx hby hret hlk d3_57 (by decide) (by decide) ?_
          rw [eT]
          exact ⟨b36b23b1b4, 8, (updI (updI (updI (updI (updI (updI (updI (updI (fun _ => (0 : Int32)) 0 (nar .byte (((ar_a2 0) >>> ((0 : Int32) &&& 31)).toInt8.toInt32))) 1 (nar .byte (((ar_a2 0) >>> ((8 : Int32) &&& 31)).toInt8.toInt32))) 2 (nar .byte (((ar_a2 1) >>> ((0 : Int32) &&& 31)).toInt8.toInt32))) 3 (nar .byte (((ar_a2 1) >>> ((8 : Int32) &&& 31)).toInt8.toInt32))) 4 (nar .byte (((ar_a2 2) >>> ((0 : Int32) &&& 31)).toInt8.toInt32))) 5 (nar .byte (((ar_a2 2) >>> ((8 : Int32) &&& 31)).toInt8.toInt32))) 6 (nar .byte (((ar_a2 3) >>> ((0 : Int32) &&& 31)).toInt8.toInt32))) 7 (nar .byte (((ar_a2 3) >>> ((8 : Int32) &&& 31)).toInt8.toInt32))), (nar .byte (1 : Int32)), rfl, N, K, E_a1, F_value_a1, F_coder_a1, A_b36b23b1b4, Or.inr ⟨by decide, rfl, own_all4 (own_utfE (ar_a2 0) (hrg 0)) (own_utfE (ar_a2 1) (hrg 1)) (own_utfE (ar_a2 2) (hrg 2)) (own_utfE (ar_a2 3) (hrg 3))⟩⟩
        · skip
          refine own_callS X hx hby hZ (st := []) [(.ref a2), (.int (0 : Int32)), (.int (4 : Int32))] rfl hown (hw _ (List.mem_of_getElem? (i := 38) rfl)) (hw _ (List.mem_of_getElem? (i := 39) rfl)) (hw _ (List.mem_of_getElem? (i := 40) rfl)) (hw _ (List.mem_of_getElem? (i := 41) rfl)) (by decide) d3_36 (rm7_4_4 l Z a0 hw a2 ar_a2 h0 n0 Zs hk0 hk1 hk2 hk3 A_a2 E_a2 g_a2) eT pd_20 rfl (by rw [hml]; rfl) (by decide) 0 rfl (by decide) (by decide) (by decide) 39 rfl ?_
          intro T36 L9 v9 X hQ
          obtain ⟨h36, eT⟩ : ∃ z, T36.heap = z := ⟨_, rfl⟩
          rw [eT] at hQ
          have lt_a1 := E_a1.lt
          have lt_a2 := A_a2.lt
          obtain ⟨b36b1, rfl, N9, Kc, hs_b36b1, A_b36b1, E_b36b1⟩ := hQ
          have g_b36b1 : n0 ≤ b36b1 := Nat.le_trans Zs hs_b36b1
          have sz_b36b1 : h0.size ≤ b36b1 := Nat.le_trans K.1 hs_b36b1
          have ne_a1_b36b1 : a1 ≠ b36b1 := Nat.ne_of_lt (Nat.lt_of_lt_of_le lt_a1 hs_b36b1)
          have ne_a2_b36b1 : a2 ≠ b36b1 := Nat.ne_of_lt (Nat.lt_of_lt_of_le lt_a2 hs_b36b1)
          have A_a2 := A_a2.keep Kc nin0
          have E_a2 := E_a2.keep Kc
          have E_a1 := E_a1.keep Kc
          have F_value_a1 := F_value_a1.keep Kc nin0
          have F_coder_a1 := F_coder_a1.keep Kc nin0
          have K := K.trans Kc all0
          have Zs := Nat.le_trans Zs Kc.1
          have N := Fr.app N N9
          show Go p e below _ T36 (mkF m 39 #[.val (.ref a1), .val (.ref a2), .val (.int (0 : Int32)), .val (.int (4 : Int32)), .val .null, .unset] [(.ref b36b1)])
          refine own_astore X hx hby d3_39 rfl (l' := #[.val (.ref a1), .val (.ref a2), .val (.int (0 : Int32)), .val (.int (4 : Int32)), .val .null, .val (.ref b36b1)]) rfl 41 rfl ?_
          refine own_aloadN X hx hby (.ref a1) d3_41 rfl rfl 42 rfl ?_
          refine own_aload X hx hby (.ref b36b1) d3_42 rfl rfl 44 rfl ?_
          refine own_iloadN X hx hby (4 : Int32) d3_44 rfl 45 rfl ?_
          refine own_callS X hx hby hZ (st := [(.ref a1)]) [(.ref b36b1), (.int (4 : Int32))] rfl hown (hw _ (List.mem_of_getElem? (i := 45) rfl)) (hw _ (List.mem_of_getElem? (i := 46) rfl)) (hw _ (List.mem_of_getElem? (i := 40) rfl)) (hw _ (List.mem_of_getElem? (i := 47) rfl)) (by decide) d3_45 (rm9_4_4 l Z a0 hw b36b1 (updI (updI (updI (updI (fun _ => (0 : Int32)) 0 (nar .byte ((ar_a2 0).toInt8.toInt32))) 1 (nar .byte ((ar_a2 1).toInt8.toInt32))) 2 (nar .byte ((ar_a2 2).toInt8.toInt32))) 3 (nar .byte ((ar_a2 3).toInt8.toInt32))) h36 n0 Zs A_b36b1 E_b36b1) eT pd_15 rfl (by rw [hml]; rfl) (by decide) 1 rfl (by decide) (by decide) (by decide) 48 rfl ?_
          intro T45 L9 v9 X hQ
          obtain ⟨rfl, N9, eT⟩ := hQ
          have N := Fr.app N N9
          show Go p e below _ T45 (mkF m 48 #[.val (.ref a1), .val (.ref a2), .val (.int (0 : Int32)), .val (.int (4 : Int32)), .val .null, .val (.ref b36b1)] [(.int (0 : Int32)), (.ref a1)])
          refine own_putFN X hx hby hZ hown (hw _ (List.mem_of_getElem? (i := 27) rfl)) Via.refl eT F_coder_a1 E_a1 (Or.inr ⟨(hw _ (List.mem_of_getElem? (i := 23) rfl)), rfl, hnm⟩) (hw _ (List.mem_of_getElem? (i := 7) rfl)) (ty := .byte) (v' := (.int (nar .byte (0 : Int32)))) (by decide) rfl (fits_nar_byte _) d3_48 51 rfl ?_
          intro T48 h48 X eT W
          have A_a2 := A_a2.other W ne_a2_a1
          have E_a2 := E_a2.wr W
          have E_a1 := E_a1.wr W
          have F_value_a1 := F_value_a1.other W (Or.inr (slot_ne (Or.inr (hw _ (List.mem_of_getElem? (i := 22) rfl))) (Or.inr (hw _ (List.mem_of_getElem? (i := 23) rfl))) (by decide) (t := (.array .byte)) (t' := .byte) (by decide) (by decide)))
          have F_coder_a1 := F_coder_a1.same W
          have A_b36b1 := A_b36b1.other W (Ne.symm ne_a1_b36b1)
          have E_b36b1 := E_b36b1.wr W
          have N := Fr.snoc X N g_a1
          have K := K.wr W (Or.inl (List.mem_of_getElem? (i := 0) rfl))
          have Zs := Nat.le_trans Zs (Keep.of_wr W).1
          refine own_aloadN X hx hby (.ref a1) d3_51 rfl rfl 52 rfl ?_
          refine own_aload X hx hby (.ref b36b1) d3_52 rfl rfl 54 rfl ?_
          refine own_putF X hx hby hZ hown (host := "") (Or.inl (hw _ (List.mem_of_getElem? (i := 26) rfl))) Via.refl eT F_value_a1 E_a1 (Or.inr ⟨(hw _ (List.mem_of_getElem? (i := 22) rfl)), rfl, hnm⟩) (hw _ (List.mem_of_getElem? (i := 7) rfl)) (ty := (.array .byte)) (by decide) rfl rfl d3_54 57 rfl ?_
          intro T54 h54 X eT W
          have A_a2 := A_a2.other W ne_a2_a1
          have E_a2 := E_a2.wr W
          have E_a1 := E_a1.wr W
          have F_value_a1 := F_value_a1.same W
          have F_coder_a1 := F_coder_a1.other W (Or.inr (slot_ne (Or.inr (hw _ (List.mem_of_getElem? (i := 23) rfl))) (Or.inr (hw _ (List.mem_of_getElem? (i := 22) rfl))) (by decide) (t := .byte) (t' := (.array .byte)) (by decide) (by decide)))
          have A_b36b1 := A_b36b1.other W (Ne.symm ne_a1_b36b1)
          have E_b36b1 := E_b36b1.wr W
          have N := Fr.snoc X N g_a1
          have K := K.wr W (Or.inl (List.mem_of_getElem? (i := 0) rfl))
          have Zs := Nat.le_trans Zs (Keep.of_wr W).1
          refine own_ret X hx hby hret hlk d3_57 (by decide) (by decide) ?_
          rw [eT]
          exact ⟨b36b1, 4, (updI (updI (updI (updI (fun _ => (0 : Int32)) 0 (nar .byte ((ar_a2 0).toInt8.toInt32))) 1 (nar .byte ((ar_a2 1).toInt8.toInt32))) 2 (nar .byte ((ar_a2 2).toInt8.toInt32))) 3 (nar .byte ((ar_a2 3).toInt8.toInt32))), (nar .byte (0 : Int32)), rfl, N, K, E_a1, F_value_a1, F_coder_a1, A_b36b1, Or.inl ⟨by decide, rfl, own_all4 (own_latE (ar_a2 0) (hrg 0) hk0) (own_latE (ar_a2 1) (hrg 1) hk1) (own_latE (ar_a2 2) (hrg 2) hk2) (own_latE (ar_a2 3) (hrg 3) hk3)⟩⟩
theorem ef_2_1 (a1 : Addr) (a2 : Addr) (m : MethodId) : entryFrame m #[(.ref a1), (.ref a2)] 2 = mkF m 0 #[.val (.ref a1), .val (.ref a2)] [] := by first | (simp [entryFrame, mkF, argsToLocals, Value.category]; done) | rfl
def Q2_1 (Z : State) (a1 : Addr) (a2 : Addr) (ar_a2 : Nat → Int32) (w_value_a1 : Value) (w_coder_a1 : Int32) (u_COMPACT_STRINGS : Int32) (h0 : Heap) (n0 : Nat) (v : Option Value) (h : Heap) (L : List Loc) : Prop := ∃ (r : Addr) (nb : Nat) (gg : Nat → Int32) (cd : Int32), v = none ∧ Fr n0 L ∧ Keep h0 h [a1] ∧ Exa Z h a1 "java/lang/String" ∧ Fld Z h a1 "java/lang/String" "value" "[B" (.ref r) ∧ Fld Z h a1 "java/lang/String" "coder" "B" (.int cd) ∧ Afi Z h r .byte nb gg ∧ own_str 1 ar_a2 cd nb gg
set_option maxRecDepth 65536 in
set_option maxHeartbeats 40000000 in
theorem rm2_1 (l : Launch) (Z : State) (a0 : Array Value) (hw : ∀ d ∈ tables_1, d.before a0 Z = true) (a1 : Addr) (a2 : Addr) (ar_a2 : Nat → Int32) (w_value_a1 : Value) (w_coder_a1 : Int32) (u_COMPACT_STRINGS : Int32) (h0 : Heap) (n0 : Nat) (Zs : n0 ≤ h0.size) (hcs : ¬ u_COMPACT_STRINGS = (0 : Int32)) (hrg : ∀ i, 0 ≤ (ar_a2 i).toInt ∧ (ar_a2 i).toInt < 65536) (A_a2 : Afi Z h0 a2 .char 1 ar_a2) (E_a2 : Exa Z h0 a2 "[C") (E_a1 : Exa Z h0 a1 "java/lang/String") (F_value_a1 : Fld Z h0 a1 "java/lang/String" "value" "[B" w_value_a1) (F_coder_a1 : Fld Z h0 a1 "java/lang/String" "coder" "B" (.int w_coder_a1)) (g_a1 : n0 ≤ a1) (S_COMPACT_STRINGS : Sta Z h0 "java/lang/String" "COMPACT_STRINGS" "Z" (.int u_COMPACT_STRINGS)) (S__assertionsDisabled : Sta Z h0 "java/lang/StringUTF16" "$assertionsDisabled" "Z" (.int (1 : Int32))) (S_HI_BYTE_SHIFT : Sta Z h0 "java/lang/StringUTF16" "HI_BYTE_SHIFT" "I" (.int (0 : Int32))) (S_LO_BYTE_SHIFT : Sta Z h0 "java/lang/StringUTF16" "LO_BYTE_SHIFT" "I" (.int (8 : Int32))) (g_a2 : n0 ≤ a2) :
    Met1 l Z (⟨"java/lang/String", "<init>", "([C)V"⟩ : MethodName) jdk_42_method_3_code 2 none ({ frames := 5, cells := 2, slots := 3, locals := 74 } : Room) #[(.ref a1), (.ref a2)] h0 (Q2_1 Z a1 a2 ar_a2 w_value_a1 w_coder_a1 u_COMPACT_STRINGS h0 n0) := by
  refine own_met_of (plainFor_of_name pn_12) (ef_2_1 a1 a2) ?_
  intro p e s m below meth c s₁ X hx hby hml hZ hown hnm hret hlk eT
  have hown : s.vm.findClass "java/lang/String" = some m.cls := hown
  have N := Fr.nil n0
  have K := Keep.refl h0 [a1]
  have ne_a2_a1 : a2 ≠ a1 := ne_exa E_a2 E_a1 (by decide)
  refine own_aloadN X hx hby (.ref a1) d2_0 rfl rfl 1 rfl ?_
  refine own_aloadN X hx hby (.ref a2) d2_1 rfl rfl 2 rfl ?_
  refine own_iconst X hx hby (0 : Int32) d2_2 rfl 3 rfl ?_
  refine own_aloadN X hx hby (.ref a2) d2_3 rfl rfl 4 rfl ?_
  refine own_arraylength X hx hby hZ (1 : Int32) eT A_a2 rfl d2_4 5 rfl ?_
  refine own_aconstNull X hx hby d2_5 6 rfl ?_
  refine own_callC X hx hby hZ (st := []) [(.ref a2), (.int (0 : Int32)), (.int (1 : Int32)), .null] rfl rfl hown (hw _ (List.mem_of_getElem? (i := 13) rfl)) (hw _ (List.mem_of_getElem? (i := 14) rfl)) (hw _ (List.mem_of_getElem? (i := 8) rfl)) (hw _ (List.mem_of_getElem? (i := 16) rfl)) (by decide) d2_6 (rm3_1 l Z a0 hw a1 a2 ar_a2 w_value_a1 w_coder_a1 u_COMPACT_STRINGS h0 n0 Zs hcs hrg A_a2 E_a2 E_a1 F_value_a1 F_coder_a1 g_a1 S_COMPACT_STRINGS S__assertionsDisabled S_HI_BYTE_SHIFT S_LO_BYTE_SHIFT g_a2 g_a2) eT pd_21 rfl (by rw [hml]; rfl) (by decide) 0 rfl (by decide) (by decide) (by decide) 9 rfl ?_
  intro T6 L9 v9 X hQ
  obtain ⟨h6, eT⟩ : ∃ z, T6.heap = z := ⟨_, rfl⟩
  rw [eT] at hQ
  have lt_a1 := E_a1.lt
  have lt_a2 := A_a2.lt
  obtain ⟨b6r, b6nb, b6gg, b6cd, rfl, N9, Kc, E_a1, F_value_a1, F_coder_a1, A_b6r, hstr6⟩ := hQ
  have A_a2 := A_a2.keep Kc (ninS ne_a2_a1 nin0)
  have E_a2 := E_a2.keep Kc
  have K := K.trans Kc (allS (Or.inl (List.mem_of_getElem? (i := 0) rfl)) all0)
  have Zs := Nat.le_trans Zs Kc.1
  have N := Fr.app N N9
  show Go p e below _ T6 (mkF m 9 #[.val (.ref a1), .val (.ref a2)] [])
  refine own_ret X hx hby hret hlk d2_9 (by decide) (by decide) ?_
  rw [eT]
  exact ⟨b6r, b6nb, b6gg, b6cd, rfl, N, K, E_a1, F_value_a1, F_coder_a1, A_b6r, hstr6⟩
theorem ef_2_2 (a1 : Addr) (a2 : Addr) (m : MethodId) : entryFrame m #[(.ref a1), (.ref a2)] 2 = mkF m 0 #[.val (.ref a1), .val (.ref a2)] [] := by first | (simp [entryFrame, mkF, argsToLocals, Value.category]; done) | rfl
def Q2_2 (Z : State) (a1 : Addr) (a2 : Addr) (ar_a2 : Nat → Int32) (w_value_a1 : Value) (w_coder_a1 : Int32) (u_COMPACT_STRINGS : Int32) (h0 : Heap) (n0 : Nat) (v : Option Value) (h : Heap) (L : List Loc) : Prop := ∃ (r : Addr) (nb : Nat) (gg : Nat → Int32) (cd : Int32), v = none ∧ Fr n0 L ∧ Keep h0 h [a1] ∧ Exa Z h a1 "java/lang/String" ∧ Fld Z h a1 "java/lang/String" "value" "[B" (.ref r) ∧ Fld Z h a1 "java/lang/String" "coder" "B" (.int cd) ∧ Afi Z h r .byte nb gg ∧ own_str 2 ar_a2 cd nb gg
set_option maxRecDepth 65536 in
set_option maxHeartbeats 40000000 in
theorem rm2_2 (l : Launch) (Z : State) (a0 : Array Value) (hw : ∀ d ∈ tables_1, d.before a0 Z = true) (a1 : Addr) (a2 : Addr) (ar_a2 : Nat → Int32) (w_value_a1 : Value) (w_coder_a1 : Int32) (u_COMPACT_STRINGS : Int32) (h0 : Heap) (n0 : Nat) (Zs : n0 ≤ h0.size) (hcs : ¬ u_COMPACT_STRINGS = (0 : Int32)) (hrg : ∀ i, 0 ≤ (ar_a2 i).toInt ∧ (ar_a2 i).toInt < 65536) (A_a2 : Afi Z h0 a2 .char 2 ar_a2) (E_a2 : Exa Z h0 a2 "[C") (E_a1 : Exa Z h0 a1 "java/lang/String") (F_value_a1 : Fld Z h0 a1 "java/lang/String" "value" "[B" w_value_a1) (F_coder_a1 : Fld Z h0 a1 "java/lang/String" "coder" "B" (.int w_coder_a1)) (g_a1 : n0 ≤ a1) (S_COMPACT_STRINGS : Sta Z h0 "java/lang/String" "COMPACT_STRINGS" "Z" (.int u_COMPACT_STRINGS)) (S__assertionsDisabled : Sta Z h0 "java/lang/StringUTF16" "$assertionsDisabled" "Z" (.int (1 : Int32))) (S_HI_BYTE_SHIFT : Sta Z h0 "java/lang/StringUTF16" "HI_BYTE_SHIFT" "I" (.int (0 : Int32))) (S_LO_BYTE_SHIFT : Sta Z h0 "java/lang/StringUTF16" "LO_BYTE_SHIFT" "I" (.int (8 : Int32))) (g_a2 : n0 ≤ a2) :
    Met1 l Z (⟨"java/lang/String", "<init>", "([C)V"⟩ : MethodName) jdk_42_method_3_code 2 none ({ frames := 5, cells := 2, slots := 6, locals := 74 } : Room) #[(.ref a1), (.ref a2)] h0 (Q2_2 Z a1 a2 ar_a2 w_value_a1 w_coder_a1 u_COMPACT_STRINGS h0 n0) := by
  refine own_met_of (plainFor_of_name pn_12) (ef_2_2 a1 a2) ?_
  intro p e s m below meth c s₁ X hx hby hml hZ hown hnm hret hlk eT
  have hown : s.vm.findClass "java/lang/String" = some m.cls := hown
  have N := Fr.nil n0
  have K := Keep.refl h0 [a1]
  have ne_a2_a1 : a2 ≠ a1 := ne_exa E_a2 E_a1 (by decide)
  refine own_aloadN X hx hby (.ref a1) d2_0 rfl rfl 1 rfl ?_
  refine own_aloadN X hx hby (.ref a2) d2_1 rfl rfl 2 rfl ?_
  refine own_iconst X hx hby (0 : Int32) d2_2 rfl 3 rfl ?_
  refine own_aloadN X hx hby (.ref a2) d2_3 rfl rfl 4 rfl ?_
  refine own_arraylength X hx hby hZ (2 : Int32) eT A_a2 rfl d2_4 5 rfl ?_
  refine own_aconstNull X hx hby d2_5 6 rfl ?_
  refine own_callC X hx hby hZ (st := []) [(.ref a2), (.int (0 : Int32)), (.int (2 : Int32)), .null] rfl rfl hown (hw _ (List.mem_of_getElem? (i := 13) rfl)) (hw _ (List.mem_of_getElem? (i := 14) rfl)) (hw _ (List.mem_of_getElem? (i := 8) rfl)) (hw _ (List.mem_of_getElem? (i := 16) rfl)) (by decide) d2_6 (rm3_2 l Z a0 hw a1 a2 ar_a2 w_value_a1 w_coder_a1 u_COMPACT_STRINGS h0 n0 Zs hcs hrg A_a2 E_a2 E_a1 F_value_a1 F_coder_a1 g_a1 S_COMPACT_STRINGS S__assertionsDisabled S_HI_BYTE_SHIFT S_LO_BYTE_SHIFT g_a2 g_a2 g_a2) eT pd_21 rfl (by rw [hml]; rfl) (by decide) 0 rfl (by decide) (by decide) (by decide) 9 rfl ?_
  intro T6 L9 v9 X hQ
  obtain ⟨h6, eT⟩ : ∃ z, T6.heap = z := ⟨_, rfl⟩
  rw [eT] at hQ
  have lt_a1 := E_a1.lt
  have lt_a2 := A_a2.lt
  obtain ⟨b6r, b6nb, b6gg, b6cd, rfl, N9, Kc, E_a1, F_value_a1, F_coder_a1, A_b6r, hstr6⟩ := hQ
  have A_a2 := A_a2.keep Kc (ninS ne_a2_a1 nin0)
  have E_a2 := E_a2.keep Kc
  have K := K.trans Kc (allS (Or.inl (List.mem_of_getElem? (i := 0) rfl)) all0)
  have Zs := Nat.le_trans Zs Kc.1
  have N := Fr.app N N9
  show Go p e below _ T6 (mkF m 9 #[.val (.ref a1), .val (.ref a2)] [])
  refine own_ret X hx hby hret hlk d2_9 (by decide) (by decide) ?_
  rw [eT]
  exact ⟨b6r, b6nb, b6gg, b6cd, rfl, N, K, E_a1, F_value_a1, F_coder_a1, A_b6r, hstr6⟩
theorem ef_2_3 (a1 : Addr) (a2 : Addr) (m : MethodId) : entryFrame m #[(.ref a1), (.ref a2)] 2 = mkF m 0 #[.val (.ref a1), .val (.ref a2)] [] := by first | (simp [entryFrame, mkF, argsToLocals, Value.category]; done) | rfl
def Q2_3 (Z : State) (a1 : Addr) (a2 : Addr) (ar_a2 : Nat → Int32) (w_value_a1 : Value) (w_coder_a1 : Int32) (u_COMPACT_STRINGS : Int32) (h0 : Heap) (n0 : Nat) (v : Option Value) (h : Heap) (L : List Loc) : Prop := ∃ (r : Addr) (nb : Nat) (gg : Nat → Int32) (cd : Int32), v = none ∧ Fr n0 L ∧ Keep h0 h [a1] ∧ Exa Z h a1 "java/lang/String" ∧ Fld Z h a1 "java/lang/String" "value" "[B" (.ref r) ∧ Fld Z h a1 "java/lang/String" "coder" "B" (.int cd) ∧ Afi Z h r .byte nb gg ∧ own_str 3 ar_a2 cd nb gg
set_option maxRecDepth 65536 in
set_option maxHeartbeats 40000000 in
theorem rm2_3 (l : Launch) (Z : State) (a0 : Array Value) (hw : ∀ d ∈ tables_1, d.before a0 Z = true) (a1 : Addr) (a2 : Addr) (ar_a2 : Nat → Int32) (w_value_a1 : Value) (w_coder_a1 : Int32) (u_COMPACT_STRINGS : Int32) (h0 : Heap) (n0 : Nat) (Zs : n0 ≤ h0.size) (hcs : ¬ u_COMPACT_STRINGS = (0 : Int32)) (hrg : ∀ i, 0 ≤ (ar_a2 i).toInt ∧ (ar_a2 i).toInt < 65536) (A_a2 : Afi Z h0 a2 .char 3 ar_a2) (E_a2 : Exa Z h0 a2 "[C") (E_a1 : Exa Z h0 a1 "java/lang/String") (F_value_a1 : Fld Z h0 a1 "java/lang/String" "value" "[B" w_value_a1) (F_coder_a1 : Fld Z h0 a1 "java/lang/String" "coder" "B" (.int w_coder_a1)) (g_a1 : n0 ≤ a1) (S_COMPACT_STRINGS : Sta Z h0 "java/lang/String" "COMPACT_STRINGS" "Z" (.int u_COMPACT_STRINGS)) (S__assertionsDisabled : Sta Z h0 "java/lang/StringUTF16" "$assertionsDisabled" "Z" (.int (1 : Int32))) (S_HI_BYTE_SHIFT : Sta Z h0 "java/lang/StringUTF16" "HI_BYTE_SHIFT" "I" (.int (0 : Int32))) (S_LO_BYTE_SHIFT : Sta Z h0 "java/lang/StringUTF16" "LO_BYTE_SHIFT" "I" (.int (8 : Int32))) (g_a2 : n0 ≤ a2) :
    Met1 l Z (⟨"java/lang/String", "<init>", "([C)V"⟩ : MethodName) jdk_42_method_3_code 2 none ({ frames := 5, cells := 2, slots := 9, locals := 74 } : Room) #[(.ref a1), (.ref a2)] h0 (Q2_3 Z a1 a2 ar_a2 w_value_a1 w_coder_a1 u_COMPACT_STRINGS h0 n0) := by
  refine own_met_of (plainFor_of_name pn_12) (ef_2_3 a1 a2) ?_
  intro p e s m below meth c s₁ X hx hby hml hZ hown hnm hret hlk eT
  have hown : s.vm.findClass "java/lang/String" = some m.cls := hown
  have N := Fr.nil n0
  have K := Keep.refl h0 [a1]
  have ne_a2_a1 : a2 ≠ a1 := ne_exa E_a2 E_a1 (by decide)
  refine own_aloadN X hx hby (.ref a1) d2_0 rfl rfl 1 rfl ?_
  refine own_aloadN X hx hby (.ref a2) d2_1 rfl rfl 2 rfl ?_
  refine own_iconst X hx hby (0 : Int32) d2_2 rfl 3 rfl ?_
  refine own_aloadN X hx hby (.ref a2) d2_3 rfl rfl 4 rfl ?_
  refine own_arraylength X hx hby hZ (3 : Int32) eT A_a2 rfl d2_4 5 rfl ?_
  refine own_aconstNull X hx hby d2_5 6 rfl ?_
  refine own_callC X hx hby hZ (st := []) [(.ref a2), (.int (0 : Int32)), (.int (3 : Int32)), .null] rfl rfl hown (hw _ (List.mem_of_getElem? (i := 13) rfl)) (hw _ (List.mem_of_getElem? (i := 14) rfl)) (hw _ (List.mem_of_getElem? (i := 8) rfl)) (hw _ (List.mem_of_getElem? (i := 16) rfl)) (by decide) d2_6 (rm3_3 l Z a0 hw a1 a2 ar_a2 w_value_a1 w_coder_a1 u_COMPACT_STRINGS h0 n0 Zs hcs hrg A_a2 E_a2 E_a1 F_value_a1 F_coder_a1 g_a1 S_COMPACT_STRINGS S__assertionsDisabled S_HI_BYTE_SHIFT S_LO_BYTE_SHIFT g_a2 g_a2 g_a2 g_a2) eT pd_21 rfl (by rw [hml]; rfl) (by decide) 0 rfl (by decide) (by decide) (by decide) 9 rfl ?_
  intro T6 L9 v9 X hQ
  obtain ⟨h6, eT⟩ : ∃ z, T6.heap = z := ⟨_, rfl⟩
  rw [eT] at hQ
  have lt_a1 := E_a1.lt
  have lt_a2 := A_a2.lt
  obtain ⟨b6r, b6nb, b6gg, b6cd, rfl, N9, Kc, E_a1, F_value_a1, F_coder_a1, A_b6r, hstr6⟩ := hQ
  have A_a2 := A_a2.keep Kc (ninS ne_a2_a1 nin0)
  have E_a2 := E_a2.keep Kc
  have K := K.trans Kc (allS (Or.inl (List.mem_of_getElem? (i := 0) rfl)) all0)
  have Zs := Nat.le_trans Zs Kc.1
  have N := Fr.app N N9
  show Go p e below _ T6 (mkF m 9 #[.val (.ref a1), .val (.ref a2)] [])
  refine own_ret X hx hby hret hlk d2_9 (by decide) (by decide) ?_
  rw [eT]
  exact ⟨b6r, b6nb, b6gg, b6cd, rfl, N, K, E_a1, F_value_a1, F_coder_a1, A_b6r, hstr6⟩
theorem ef_2_4 (a1 : Addr) (a2 : Addr) (m : MethodId) : entryFrame m #[(.ref a1), (.ref a2)] 2 = mkF m 0 #[.val (.ref a1), .val (.ref a2)] [] := by first | (simp [entryFrame, mkF, argsToLocals, Value.category]; done) | rfl
def Q2_4 (Z : State) (a1 : Addr) (a2 : Addr) (ar_a2 : Nat → Int32) (w_value_a1 : Value) (w_coder_a1 : Int32) (u_COMPACT_STRINGS : Int32) (h0 : Heap) (n0 : Nat) (v : Option Value) (h : Heap) (L : List Loc) : Prop := ∃ (r : Addr) (nb : Nat) (gg : Nat → Int32) (cd : Int32), v = none ∧ Fr n0 L ∧ Keep h0 h [a1] ∧ Exa Z h a1 "java/lang/String" ∧ Fld Z h a1 "java/lang/String" "value" "[B" (.ref r) ∧ Fld Z h a1 "java/lang/String" "coder" "B" (.int cd) ∧ Afi Z h r .byte nb gg ∧ own_str 4 ar_a2 cd nb gg
set_option maxRecDepth 65536 in
set_option maxHeartbeats 40000000 in
theorem rm2_4 (l : Launch) (Z : State) (a0 : Array Value) (hw : ∀ d ∈ tables_1, d.before a0 Z = true) (a1 : Addr) (a2 : Addr) (ar_a2 : Nat → Int32) (w_value_a1 : Value) (w_coder_a1 : Int32) (u_COMPACT_STRINGS : Int32) (h0 : Heap) (n0 : Nat) (Zs : n0 ≤ h0.size) (hcs : ¬ u_COMPACT_STRINGS = (0 : Int32)) (hrg : ∀ i, 0 ≤ (ar_a2 i).toInt ∧ (ar_a2 i).toInt < 65536) (A_a2 : Afi Z h0 a2 .char 4 ar_a2) (E_a2 : Exa Z h0 a2 "[C") (E_a1 : Exa Z h0 a1 "java/lang/String") (F_value_a1 : Fld Z h0 a1 "java/lang/String" "value" "[B" w_value_a1) (F_coder_a1 : Fld Z h0 a1 "java/lang/String" "coder" "B" (.int w_coder_a1)) (g_a1 : n0 ≤ a1) (S_COMPACT_STRINGS : Sta Z h0 "java/lang/String" "COMPACT_STRINGS" "Z" (.int u_COMPACT_STRINGS)) (S__assertionsDisabled : Sta Z h0 "java/lang/StringUTF16" "$assertionsDisabled" "Z" (.int (1 : Int32))) (S_HI_BYTE_SHIFT : Sta Z h0 "java/lang/StringUTF16" "HI_BYTE_SHIFT" "I" (.int (0 : Int32))) (S_LO_BYTE_SHIFT : Sta Z h0 "java/lang/StringUTF16" "LO_BYTE_SHIFT" "I" (.int (8 : Int32))) (g_a2 : n0 ≤ a2) :
    Met1 l Z (⟨"java/lang/String", "<init>", "([C)V"⟩ : MethodName) jdk_42_method_3_code 2 none ({ frames := 5, cells := 2, slots := 12, locals := 74 } : Room) #[(.ref a1), (.ref a2)] h0 (Q2_4 Z a1 a2 ar_a2 w_value_a1 w_coder_a1 u_COMPACT_STRINGS h0 n0) := by
  refine own_met_of (plainFor_of_name pn_12) (ef_2_4 a1 a2) ?_
  intro p e s m below meth c s₁ X hx hby hml hZ hown hnm hret hlk eT
  have hown : s.vm.findClass "java/lang/String" = some m.cls := hown
  have N := Fr.nil n0
  have K := Keep.refl h0 [a1]
  have ne_a2_a1 : a2 ≠ a1 := ne_exa E_a2 E_a1 (by decide)
  refine own_aloadN X hx hby (.ref a1) d2_0 rfl rfl 1 rfl ?_
  refine own_aloadN X hx hby (.ref a2) d2_1 rfl rfl 2 rfl ?_
  refine own_iconst X hx hby (0 : Int32) d2_2 rfl 3 rfl ?_
  refine own_aloadN X hx hby (.ref a2) d2_3 rfl rfl 4 rfl ?_
  refine own_arraylength X hx hby hZ (4 : Int32) eT A_a2 rfl d2_4 5 rfl ?_
  refine own_aconstNull X hx hby d2_5 6 rfl ?_
  refine own_callC X hx hby hZ (st := []) [(.ref a2), (.int (0 : Int32)), (.int (4 : Int32)), .null] rfl rfl hown (hw _ (List.mem_of_getElem? (i := 13) rfl)) (hw _ (List.mem_of_getElem? (i := 14) rfl)) (hw _ (List.mem_of_getElem? (i := 8) rfl)) (hw _ (List.mem_of_getElem? (i := 16) rfl)) (by decide) d2_6 (rm3_4 l Z a0 hw a1 a2 ar_a2 w_value_a1 w_coder_a1 u_COMPACT_STRINGS h0 n0 Zs hcs hrg A_a2 E_a2 E_a1 F_value_a1 F_coder_a1 g_a1 S_COMPACT_STRINGS S__assertionsDisabled S_HI_BYTE_SHIFT S_LO_BYTE_SHIFT g_a2 g_a2 g_a2 g_a2 g_a2) eT pd_21 rfl (by rw [hml]; rfl) (by decide) 0 rfl (by decide) (by decide) (by decide) 9 rfl ?_
  intro T6 L9 v9 X hQ
  obtain ⟨h6, eT⟩ : ∃ z, T6.heap = z := ⟨_, rfl⟩
  rw [eT] at hQ
  have lt_a1 := E_a1.lt
  have lt_a2 := A_a2.lt
  obtain ⟨b6r, b6nb, b6gg, b6cd, rfl, N9, Kc, E_a1, F_value_a1, F_coder_a1, A_b6r, hstr6⟩ := hQ
  have A_a2 := A_a2.keep Kc (ninS ne_a2_a1 nin0)
  have E_a2 := E_a2.keep Kc
  have K := K.trans Kc (allS (Or.inl (List.mem_of_getElem? (i := 0) rfl)) all0)
  have Zs := Nat.le_trans Zs Kc.1
  have N := Fr.app N N9
  show Go p e below _ T6 (mkF m 9 #[.val (.ref a1), .val (.ref a2)] [])
  refine own_ret X hx hby hret hlk d2_9 (by decide) (by decide) ?_
  rw [eT]
  exact ⟨b6r, b6nb, b6gg, b6cd, rfl, N, K, E_a1, F_value_a1, F_coder_a1, A_b6r, hstr6⟩
theorem ef_3_0 (a1 : Addr) (a2 : Addr) (m : MethodId) : entryFrame m #[(.ref a1), (.ref a2), (.int (0 : Int32)), (.int (0 : Int32)), .null] 6 = mkF m 0 #[.val (.ref a1), .val (.ref a2), .val (.int (0 : Int32)), .val (.int (0 : Int32)), .val .null, .unset] [] := by first | (simp [entryFrame, mkF, argsToLocals, Value.category]; done) | rfl
def Q3_0 (Z : State) (a1 : Addr) (a2 : Addr) (w_coder_a1 : Int32) (h0 : Heap) (n0 : Nat) (v : Option Value) (h : Heap) (L : List Loc) : Prop := ∃ (r : Addr) (gg : Nat → Int32), v = none ∧ Fr n0 L ∧ Keep h0 h [a1] ∧ Exa Z h a1 "java/lang/String" ∧ Fld Z h a1 "java/lang/String" "value" "[B" (.ref r) ∧ Afi Z h r .byte 0 gg
set_option maxRecDepth 65536 in
set_option maxHeartbeats 40000000 in
theorem rm3_0 (l : Launch) (Z : State) (a0 : Array Value) (hw : ∀ d ∈ tables_1, d.before a0 Z = true) (a1 : Addr) (a2 : Addr) (w_coder_a1 : Int32) (h0 : Heap) (n0 : Nat) (Zs : n0 ≤ h0.size) (E_a1 : Exa Z h0 a1 "java/lang/String") (F_value_a1 : Fld Z h0 a1 "java/lang/String" "value" "[B" .null) (F_coder_a1 : Fld Z h0 a1 "java/lang/String" "coder" "B" (.int w_coder_a1)) (g_a1 : n0 ≤ a1) :
    Met1H l Z own_EL (⟨"java/lang/String", "<init>", "([CIILjava/lang/Void;)V"⟩ : MethodName) jdk_42_method_149_code 6 none ({ frames := 1, cells := 4, slots := 8, locals := 12 } : Room) #[(.ref a1), (.ref a2), (.int (0 : Int32)), (.int (0 : Int32)), .null] h0 (Q3_0 Z a1 a2 w_coder_a1 h0 n0) := by
  refine own_met_ofH (plainFor_of_name pn_12) (ef_3_0 a1 a2) ?_
  intro p e s m below meth c s₁ vm0 X hx hby hml hZ hown hnm hret hlk eT hS hs0 H0
  have hown : (s.setVm vm0).vm.findClass "java/lang/String" = some m.cls := hown
  have hk : 0 ≤ h0.size := Nat.zero_le _
  have Rr := CHr.refl H0
  have N := Fr.nil n0
  have K := Keep.refl h0 [a1]
  refine own_aloadN X hx hby (.ref a1) d3_0 rfl rfl 1 rfl ?_
  refine own_initO X hx hby hZ hown (hw _ (List.mem_of_getElem? (i := 17) rfl)) (hw _ (List.mem_of_getElem? (i := 18) rfl)) (hw _ (List.mem_of_getElem? (i := 19) rfl)) eT (by rw [hml]; rfl) d3_1 (by decide) 0 rfl (by decide) 4 rfl ?_
  intro T1 X eT
  refine own_iloadN X hx hby (0 : Int32) d3_4 rfl 5 rfl ?_
  have c5 : (0 : Int32) = (0 : Int32) := by decide
  refine own_if_ne X hx hby d3_5 27 8 (by decide) rfl (fun q => absurd c5 q) (fun _ => ?_)
  refine own_aloadN X hx hby (.ref a1) d3_8 rfl rfl 9 rfl ?_
  have Sf := own_safeS (EL := own_EL) hZ.alike E_a1 F_value_a1
  have lt_a1 := E_a1.lt
  refine own_ldcH X hx hby hZ hown (hw _ (List.mem_of_getElem? (i := 20) rfl)) (own_wS hw) eT hS hk (own_hEL hw) (List.mem_of_getElem? (i := 1) rfl) Rr.1 (vs := []) (z := 0) own_e1 (by decide) rfl d3_9 (n := 0) own_e3 (by decide) (by decide) (by decide) 11 rfl ?_
  intro T9 h9 a9 r9 vm9 k9 X eT Ex hS hk hZ hown Es Fc Fv As Rc Dn
  have Sf := Rc.safe lt_a1 Sf
  have Rr := Rr.trans Rc
  have ne_a1_a9 := (Dn a1 Sf).1
  have ne_a1_r9 := (Dn a1 Sf).2
  have E_a1 := E_a1.ext Ex
  have F_value_a1 := F_value_a1.ext Ex
  have F_coder_a1 := F_coder_a1.ext Ex
  have K := K.ext Ex
  have Zs := Nat.le_trans Zs Ex.1
  have A_r9 : Afi Z h9 r9 .byte 0 (fun _ => (0 : Int32)) := Afn.to As fun i hi => absurd hi (Nat.not_lt_zero i)
  have E_a9 := Es
  have F_coder_a9 := Fc
  have F_value_a9 := Fv
  refine own_getF X hx hby hZ hown (host := "") (Or.inl (hw _ (List.mem_of_getElem? (i := 26) rfl))) Via.refl eT F_value_a9 d3_11 14 rfl ?_
  intro T11 X eT
  refine own_putF X hx hby hZ hown (host := "") (Or.inl (hw _ (List.mem_of_getElem? (i := 26) rfl))) Via.refl eT F_value_a1 E_a1 (Or.inr ⟨(hw _ (List.mem_of_getElem? (i := 22) rfl)), rfl, hnm⟩) (hw _ (List.mem_of_getElem? (i := 7) rfl)) (ty := (.array .byte)) (by decide) rfl rfl d3_14 17 rfl ?_
  intro T14 h14 X eT W
  have hk := Nat.le_trans hk (Keep.of_wr W).1
  have E_a1 := E_a1.wr W
  have F_value_a1 := F_value_a1.same W
  have F_coder_a1 := F_coder_a1.other W (Or.inr (slot_ne (Or.inr (hw _ (List.mem_of_getElem? (i := 23) rfl))) (Or.inr (hw _ (List.mem_of_getElem? (i := 22) rfl))) (by decide) (t := .byte) (t' := (.array .byte)) (by decide) (by decide)))
  have E_a9 := E_a9.wr W
  have F_coder_a9 := F_coder_a9.other W (Or.inl (Ne.symm ne_a1_a9))
  have F_value_a9 := F_value_a9.other W (Or.inl (Ne.symm ne_a1_a9))
  have A_r9 := A_r9.other W (Ne.symm ne_a1_r9)
  have N := Fr.snoc X N g_a1
  have K := K.wr W (Or.inl (List.mem_of_getElem? (i := 0) rfl))
  have Zs := Nat.le_trans Zs (Keep.of_wr W).1
  have Sf2 := Safe.wr W Sf Rr.1 Sf
  have Rr := Rr.trans (CHr.wr W Sf Rr.1)
  have Sf := Sf2
  refine own_aloadN X hx hby (.ref a1) d3_17 rfl rfl 18 rfl ?_
  have lt_a1 := E_a1.lt
  refine own_ldcH X hx hby hZ hown (hw _ (List.mem_of_getElem? (i := 20) rfl)) (own_wS hw) eT hS hk (own_hEL hw) (List.mem_of_getElem? (i := 1) rfl) Rr.1 (vs := []) (z := 0) own_e1 (by decide) rfl d3_18 (n := 0) own_e3 (by decide) (by decide) (by decide) 20 rfl ?_
  intro T18 h18 a18 r18 vm18 k18 X eT Ex hS hk hZ hown Es Fc Fv As Rc Dn
  have Sf := Rc.safe lt_a1 Sf
  have Rr := Rr.trans Rc
  have ne_a1_a18 := (Dn a1 Sf).1
  have ne_a1_r18 := (Dn a1 Sf).2
  have E_a1 := E_a1.ext Ex
  have F_value_a1 := F_value_a1.ext Ex
  have F_coder_a1 := F_coder_a1.ext Ex
  have E_a9 := E_a9.ext Ex
  have F_coder_a9 := F_coder_a9.ext Ex
  have F_value_a9 := F_value_a9.ext Ex
  have A_r9 := A_r9.ext Ex
  have K := K.ext Ex
  have Zs := Nat.le_trans Zs Ex.1
  have A_r18 : Afi Z h18 r18 .byte 0 (fun _ => (0 : Int32)) := Afn.to As fun i hi => absurd hi (Nat.not_lt_zero i)
  have E_a18 := Es
  have F_coder_a18 := Fc
  have F_value_a18 := Fv
  refine own_getF X hx hby hZ hown (host := "") (Or.inl (hw _ (List.mem_of_getElem? (i := 27) rfl))) Via.refl eT F_coder_a18 d3_20 23 rfl ?_
  intro T20 X eT
  refine own_putFN X hx hby hZ hown (hw _ (List.mem_of_getElem? (i := 27) rfl)) Via.refl eT F_coder_a1 E_a1 (Or.inr ⟨(hw _ (List.mem_of_getElem? (i := 23) rfl)), rfl, hnm⟩) (hw _ (List.mem_of_getElem? (i := 7) rfl)) (ty := .byte) (v' := (.int (nar .byte (0 : Int32)))) (by decide) rfl (fits_nar_byte _) d3_23 26 rfl ?_
  intro T23 h23 X eT W
  have hk := Nat.le_trans hk (Keep.of_wr W).1
  have E_a1 := E_a1.wr W
  have F_value_a1 := F_value_a1.other W (Or.inr (slot_ne (Or.inr (hw _ (List.mem_of_getElem? (i := 22) rfl))) (Or.inr (hw _ (List.mem_of_getElem? (i := 23) rfl))) (by decide) (t := (.array .byte)) (t' := .byte) (by decide) (by decide)))
  have F_coder_a1 := F_coder_a1.same W
  have E_a9 := E_a9.wr W
  have F_coder_a9 := F_coder_a9.other W (Or.inl (Ne.symm ne_a1_a9))
  have F_value_a9 := F_value_a9.other W (Or.inl (Ne.symm ne_a1_a9))
  have A_r9 := A_r9.other W (Ne.symm ne_a1_r9)
  have E_a18 := E_a18.wr W
  have F_coder_a18 := F_coder_a18.other W (Or.inl (Ne.symm ne_a1_a18))
  have F_value_a18 := F_value_a18.other W (Or.inl (Ne.symm ne_a1_a18))
  have A_r18 := A_r18.other W (Ne.symm ne_a1_r18)
  have N := Fr.snoc X N g_a1
  have K := K.wr W (Or.inl (List.mem_of_getElem? (i := 0) rfl))
  have Zs := Nat.le_trans Zs (Keep.of_wr W).1
  have Sf2 := Safe.wr W Sf Rr.1 Sf
  have Rr := Rr.trans (CHr.wr W Sf Rr.1)
  have Sf := Sf2
  refine own_retH X hx hby hZ hS (Nat.le_trans hk (Nat.le_of_eq (by rw [eT]))) eT (own_hEL hw) Rr hret hlk d3_26 (by decide) (by decide) ?_
  rw [eT]
  exact ⟨r9, (fun _ => (0 : Int32)), rfl, N, K, E_a1, F_value_a1, A_r9⟩
theorem ef_2_0 (a1 : Addr) (a2 : Addr) (m : MethodId) : entryFrame m #[(.ref a1), (.ref a2)] 2 = mkF m 0 #[.val (.ref a1), .val (.ref a2)] [] := by first | (simp [entryFrame, mkF, argsToLocals, Value.category]; done) | rfl
def Q2_0 (Z : State) (a1 : Addr) (a2 : Addr) (ar_a2 : Nat → Int32) (w_coder_a1 : Int32) (h0 : Heap) (n0 : Nat) (v : Option Value) (h : Heap) (L : List Loc) : Prop := ∃ (r : Addr) (gg : Nat → Int32), v = none ∧ Fr n0 L ∧ Keep h0 h [a1] ∧ Exa Z h a1 "java/lang/String" ∧ Fld Z h a1 "java/lang/String" "value" "[B" (.ref r) ∧ Afi Z h r .byte 0 gg
set_option maxRecDepth 65536 in
set_option maxHeartbeats 40000000 in
theorem rm2_0 (l : Launch) (Z : State) (a0 : Array Value) (hw : ∀ d ∈ tables_1, d.before a0 Z = true) (a1 : Addr) (a2 : Addr) (ar_a2 : Nat → Int32) (w_coder_a1 : Int32) (h0 : Heap) (n0 : Nat) (Zs : n0 ≤ h0.size) (A_a2 : Afi Z h0 a2 .char 0 ar_a2) (E_a2 : Exa Z h0 a2 "[C") (E_a1 : Exa Z h0 a1 "java/lang/String") (F_value_a1 : Fld Z h0 a1 "java/lang/String" "value" "[B" .null) (F_coder_a1 : Fld Z h0 a1 "java/lang/String" "coder" "B" (.int w_coder_a1)) (g_a1 : n0 ≤ a1) :
    Met1H l Z own_EL (⟨"java/lang/String", "<init>", "([C)V"⟩ : MethodName) jdk_42_method_3_code 2 none ({ frames := 2, cells := 4, slots := 8, locals := 29 } : Room) #[(.ref a1), (.ref a2)] h0 (Q2_0 Z a1 a2 ar_a2 w_coder_a1 h0 n0) := by
  refine own_met_ofH (plainFor_of_name pn_12) (ef_2_0 a1 a2) ?_
  intro p e s m below meth c s₁ vm0 X hx hby hml hZ hown hnm hret hlk eT hS hs0 H0
  have hown : (s.setVm vm0).vm.findClass "java/lang/String" = some m.cls := hown
  have hk : 0 ≤ h0.size := Nat.zero_le _
  have Rr := CHr.refl H0
  have N := Fr.nil n0
  have K := Keep.refl h0 [a1]
  have ne_a2_a1 : a2 ≠ a1 := ne_exa E_a2 E_a1 (by decide)
  refine own_aloadN X hx hby (.ref a1) d2_0 rfl rfl 1 rfl ?_
  refine own_aloadN X hx hby (.ref a2) d2_1 rfl rfl 2 rfl ?_
  refine own_iconst X hx hby (0 : Int32) d2_2 rfl 3 rfl ?_
  refine own_aloadN X hx hby (.ref a2) d2_3 rfl rfl 4 rfl ?_
  refine own_arraylength X hx hby hZ (0 : Int32) eT A_a2 rfl d2_4 5 rfl ?_
  refine own_aconstNull X hx hby d2_5 6 rfl ?_
  refine own_callCH X hx hby hZ (st := []) [(.ref a2), (.int (0 : Int32)), (.int (0 : Int32)), .null] rfl rfl hown hS hk (own_hEL hw) Rr (hw _ (List.mem_of_getElem? (i := 13) rfl)) (hw _ (List.mem_of_getElem? (i := 14) rfl)) (hw _ (List.mem_of_getElem? (i := 8) rfl)) (hw _ (List.mem_of_getElem? (i := 16) rfl)) (by decide) d2_6 (rm3_0 l Z a0 hw a1 a2 w_coder_a1 h0 n0 Zs E_a1 F_value_a1 F_coder_a1 g_a1) eT pd_21 rfl (by rw [hml]; rfl) (by decide) 0 rfl (by decide) (by decide) (by decide) 9 rfl ?_
  intro T6 L9 v9 vm6 X hS hZ hown Rr hQ
  obtain ⟨h6, eT⟩ : ∃ z, T6.heap = z := ⟨_, rfl⟩
  rw [eT] at hQ Rr
  have lt_a1 := E_a1.lt
  have lt_a2 := A_a2.lt
  obtain ⟨b6r, b6gg, rfl, N9, Kc, E_a1, F_value_a1, A_b6r⟩ := hQ
  have A_a2 := A_a2.keep Kc (ninS ne_a2_a1 nin0)
  have E_a2 := E_a2.keep Kc
  have hk : T6.heap.size ≤ h6.size := by rw [eT]; exact Nat.le_refl _
  have K := K.trans Kc (allS (Or.inl (List.mem_of_getElem? (i := 0) rfl)) all0)
  have Zs := Nat.le_trans Zs Kc.1
  have N := Fr.app N N9
  show Go p e below _ T6 (mkF m 9 #[.val (.ref a1), .val (.ref a2)] [])
  refine own_retH X hx hby hZ hS (Nat.le_trans hk (Nat.le_of_eq (by rw [eT]))) eT (own_hEL hw) Rr hret hlk d2_9 (by decide) (by decide) ?_
  rw [eT]
  exact ⟨b6r, b6gg, rfl, N, K, E_a1, F_value_a1, A_b6r⟩
theorem ef_5_0 (a1 : Addr) (m : MethodId) : entryFrame m #[(.ref a1)] 3 = mkF m 0 #[.val (.ref a1), .unset, .unset] [] := by first | (simp [entryFrame, mkF, argsToLocals, Value.category]; done) | rfl
def Q5_0 (Z : State) (a1 : Addr) (r1 : Addr) (ar_r1 : Nat → Int32) (h0 : Heap) (n0 : Nat) (v : Option Value) (h : Heap) (L : List Loc) : Prop := v = some (.int (0 : Int32)) ∧ Fr n0 L ∧ h = h0
set_option maxRecDepth 65536 in
set_option maxHeartbeats 40000000 in
theorem rm5_0 (l : Launch) (Z : State) (a0 : Array Value) (hw : ∀ d ∈ tables_1, d.before a0 Z = true) (a1 : Addr) (r1 : Addr) (ar_r1 : Nat → Int32) (h0 : Heap) (n0 : Nat) (Zs : n0 ≤ h0.size) (A_r1 : Afi Z h0 r1 .byte 0 ar_r1) (F_value_a1 : Fld Z h0 a1 "java/lang/String" "value" "[B" (.ref r1)) (E_a1 : Exa Z h0 a1 "java/lang/String") :
    Met1 l Z (⟨"com/example/operant/operant/HeaderFields", "isToken", "(Ljava/lang/String;)Z"⟩ : MethodName) prog_3_method_4_code 3 (some .boolean) ({ frames := 1, cells := 0, slots := 0, locals := 12 } : Room) #[(.ref a1)] h0 (Q5_0 Z a1 r1 ar_r1 h0 n0) := by
  refine own_met_of (plainFor_of_name pn_18) (ef_5_0 a1) ?_
  intro p e s m below meth c s₁ X hx hby hml hZ hown hnm hret hlk eT
  have hown : s.vm.findClass "com/example/operant/operant/HeaderFields" = some m.cls := hown
  have N := Fr.nil n0
  refine own_aloadN X hx hby (.ref a1) d5_0 rfl rfl 1 rfl ?_
  refine own_callV X hx hby hZ (st := []) [] rfl hown (hw _ (List.mem_of_getElem? (i := 32) rfl)) (hw _ (List.mem_of_getElem? (i := 33) rfl)) (hw _ (List.mem_of_getElem? (i := 35) rfl)) (hw _ (List.mem_of_getElem? (i := 34) rfl)) (hw _ (List.mem_of_getElem? (i := 8) rfl)) (hw _ (List.mem_of_getElem? (i := 36) rfl)) E_a1 (by decide) d5_1 (rm6_0 l Z a0 hw a1 r1 ar_r1 h0 n0 Zs A_r1 F_value_a1) eT pd_3 rfl (by rw [hml]; rfl) (by decide) 0 rfl (by decide) (by decide) (by decide) 4 rfl ?_
  intro T1 L9 v9 X hQ
  obtain ⟨rfl, N9, eT⟩ := hQ
  have N := Fr.app N N9
  show Go p e below _ T1 (mkF m 4 #[.val (.ref a1), .unset, .unset] [(.int (1 : Int32))])
  have c4 : ¬ (1 : Int32) = (0 : Int32) := by decide
  refine own_if_eq X hx hby d5_4 9 7 (by decide) rfl (fun q => absurd q c4) (fun _ => ?_)
  refine own_iconst X hx hby (0 : Int32) d5_7 rfl 8 rfl ?_
  refine own_retN X hx hby hret hlk (t := .boolean) (z' := (0 : Int32)) (by simp) d5_8 (by decide) (by decide) rfl ?_
  rw [eT]
  exact ⟨rfl, N, rfl⟩
theorem ef_5_p (a1 : Addr) (m : MethodId) : entryFrame m #[(.ref a1)] 3 = mkF m 0 #[.val (.ref a1), .unset, .unset] [] := by first | (simp [entryFrame, mkF, argsToLocals, Value.category]; done) | rfl
def Q5_p (Z : State) (a1 : Addr) (nn : Nat) (cc : Nat → Int32) (r1 : Addr) (ar_r1 : Nat → Int32) (n1 : Nat) (u_COMPACT_STRINGS : Int32) (u_SIOOBE_FORMATTER : Value) (w_coder_a1 : Int32) (h0 : Heap) (n0 : Nat) (v : Option Value) (h : Heap) (L : List Loc) : Prop := v = some (.int (own_res cc 0 nn)) ∧ Fr n0 L ∧ Keep h0 h []
set_option maxRecDepth 65536 in
set_option maxHeartbeats 40000000 in
theorem rm5_p (l : Launch) (Z : State) (a0 : Array Value) (hw : ∀ d ∈ tables_1, d.before a0 Z = true) (a1 : Addr) (nn : Nat) (cc : Nat → Int32) (r1 : Addr) (ar_r1 : Nat → Int32) (n1 : Nat) (u_COMPACT_STRINGS : Int32) (u_SIOOBE_FORMATTER : Value) (w_coder_a1 : Int32) (h0 : Heap) (n0 : Nat) (Zs : n0 ≤ h0.size) (hcs : ¬ u_COMPACT_STRINGS = (0 : Int32)) (hsf : u_SIOOBE_FORMATTER.isRef = true) (hstr : own_str nn cc w_coder_a1 n1 ar_r1) (hn4 : nn ≤ 4) (hn1 : 1 ≤ nn) (A_r1 : Afi Z h0 r1 .byte n1 ar_r1) (S_COMPACT_STRINGS : Sta Z h0 "java/lang/String" "COMPACT_STRINGS" "Z" (.int u_COMPACT_STRINGS)) (S_SIOOBE_FORMATTER : Sta Z h0 "jdk/internal/util/Preconditions" "SIOOBE_FORMATTER" "Ljava/util/function/BiFunction;" u_SIOOBE_FORMATTER) (S__assertionsDisabled : Sta Z h0 "java/lang/StringUTF16" "$assertionsDisabled" "Z" (.int (1 : Int32))) (S_HI_BYTE_SHIFT : Sta Z h0 "java/lang/StringUTF16" "HI_BYTE_SHIFT" "I" (.int (0 : Int32))) (S_LO_BYTE_SHIFT : Sta Z h0 "java/lang/StringUTF16" "LO_BYTE_SHIFT" "I" (.int (8 : Int32))) (E_a1 : Exa Z h0 a1 "java/lang/String") (F_value_a1 : Fld Z h0 a1 "java/lang/String" "value" "[B" (.ref r1)) (F_coder_a1 : Fld Z h0 a1 "java/lang/String" "coder" "B" (.int w_coder_a1)) :
    Met1H l Z own_EL (⟨"com/example/operant/operant/HeaderFields", "isToken", "(Ljava/lang/String;)Z"⟩ : MethodName) prog_3_method_4_code 3 (some .boolean) ({ frames := 5, cells := 8, slots := 256, locals := 66 } : Room) #[(.ref a1)] h0 (Q5_p Z a1 nn cc r1 ar_r1 n1 u_COMPACT_STRINGS u_SIOOBE_FORMATTER w_coder_a1 h0 n0) := by
  refine own_met_ofH (plainFor_of_name pn_18) (ef_5_p a1) ?_
  intro p e s m below meth c s₁ vm0 X hx hby hml hZ hown hnm hret hlk eT hS hs0 H0
  have hown : (s.setVm vm0).vm.findClass "com/example/operant/operant/HeaderFields" = some m.cls := hown
  have hk : 0 ≤ h0.size := Nat.zero_le _
  have Rr := CHr.refl H0
  have N := Fr.nil n0
  have K := Keep.refl h0 []
  refine own_aloadN X hx hby (.ref a1) d5_0 rfl rfl 1 rfl ?_
  refine own_callV X hx hby hZ (st := []) [] rfl hown (hw _ (List.mem_of_getElem? (i := 32) rfl)) (hw _ (List.mem_of_getElem? (i := 33) rfl)) (hw _ (List.mem_of_getElem? (i := 35) rfl)) (hw _ (List.mem_of_getElem? (i := 34) rfl)) (hw _ (List.mem_of_getElem? (i := 8) rfl)) (hw _ (List.mem_of_getElem? (i := 36) rfl)) E_a1 (by decide) d5_1 (rm6_p l Z a0 hw a1 r1 ar_r1 n1 h0 n0 Zs (own_ne hstr hn1 hn4) A_r1 F_value_a1) eT pd_3 rfl (by rw [hml]; rfl) (by decide) 0 rfl (by decide) (by decide) (by decide) 4 rfl ?_
  intro T1 L9 v9 X hQ
  obtain ⟨rfl, N9, eT⟩ := hQ
  have N := Fr.app N N9
  show Go p e below _ T1 (mkF m 4 #[.val (.ref a1), .unset, .unset] [(.int (0 : Int32))])
  have c4 : (0 : Int32) = (0 : Int32) := by decide
  refine own_if_eq X hx hby d5_4 9 7 (by decide) rfl (fun _ => ?_) (fun q => absurd c4 q)
  refine own_iconst X hx hby (0 : Int32) d5_9 rfl 10 rfl ?_
  refine own_istoreN X hx hby d5_10 rfl (l' := #[.val (.ref a1), .val (.int (0 : Int32)), .unset]) rfl 11 rfl ?_
  have J4 : ∀ (TJ : State) (hJ : Heap) (vmJ : Vm) (kJ : Nat) (LJ : List Loc), Stand p l e ({ frames := 5, cells := 8, slots := 256, locals := 66 } : Room) (s.setVm vmJ) m #[(.ref a1)] below meth c TJ LJ 8 256 → TJ.heap = hJ → Keep h0 hJ [] → n0 ≤ hJ.size → Fr n0 LJ → s.Since vmJ kJ → kJ ≤ hJ.size → Z.Warmed39 (s.setVm vmJ).vm → (s.setVm vmJ).vm.findClass "com/example/operant/operant/HeaderFields" = some m.cls → CHr Z own_EL vm0 h0 vmJ hJ → own_res cc 0 nn = own_res cc 4 (nn - 4) → Go p e below (FinH s Z own_EL vm0 h0 (Q5_p Z a1 nn cc r1 ar_r1 n1 u_COMPACT_STRINGS u_SIOOBE_FORMATTER w_coder_a1 h0 n0) ({ frames := 5, cells := 8, slots := 256, locals := 66 } : Room).cells ({ frames := 5, cells := 8, slots := 256, locals := 66 } : Room).slots) TJ (mkF m 11 #[.val (.ref a1), .val (.int (4 : Int32)), .val (.int (cc 3))] []) := by
    intro TJ hJ vmJ kJ LJ X eT K Zs N hS hk hZ hown Rr hr
    have A_r1 := A_r1.ext (own_ext0 K)
    have E_a1 := E_a1.ext (own_ext0 K)
    have F_value_a1 := F_value_a1.ext (own_ext0 K)
    have F_coder_a1 := F_coder_a1.ext (own_ext0 K)
    refine own_iloadN X hx hby (4 : Int32) d5_11 rfl 12 rfl ?_
    refine own_aloadN X hx hby (.ref a1) d5_12 rfl rfl 13 rfl ?_
    refine own_callV X hx hby hZ (st := [(.int (4 : Int32))]) [] rfl hown (hw _ (List.mem_of_getElem? (i := 51) rfl)) (hw _ (List.mem_of_getElem? (i := 52) rfl)) (hw _ (List.mem_of_getElem? (i := 54) rfl)) (hw _ (List.mem_of_getElem? (i := 53) rfl)) (hw _ (List.mem_of_getElem? (i := 8) rfl)) (hw _ (List.mem_of_getElem? (i := 55) rfl)) E_a1 (by decide) d5_13 (rm11_p l Z a0 hw a1 nn cc r1 ar_r1 n1 w_coder_a1 u_COMPACT_STRINGS hJ n0 Zs hcs hstr hn4 A_r1 F_value_a1 F_coder_a1 (S_COMPACT_STRINGS.ext (own_ext0 K)) E_a1) eT pd_1 rfl (by rw [hml]; rfl) (by decide) 1 rfl (by decide) (by decide) (by decide) 16 rfl ?_
    intro T13 L9 v9 X hQ
    obtain ⟨rfl, N9, eT⟩ := hQ
    have N := Fr.app N N9
    show Go p e below _ T13 (mkF m 16 #[.val (.ref a1), .val (.int (4 : Int32)), .val (.int (cc 3))] [(.int (Nat.toInt32 nn)), (.int (4 : Int32))])
    have c16 : ¬ (4 : Int32) < (Nat.toInt32 nn) := own_no4 hn4
    refine own_icmp_ge X hx hby d5_16 49 19 (by decide) rfl (fun _ => ?_) (fun q => absurd q c16)
    refine own_iconst X hx hby (1 : Int32) d5_49 rfl 50 rfl ?_
    refine own_retNH X hx hby hZ hS (Nat.le_trans hk (Nat.le_of_eq (by rw [eT]))) eT (own_hEL hw) Rr hret hlk (t := .boolean) (z' := (1 : Int32)) (by simp) d5_50 (by decide) (by decide) rfl ?_
    rw [eT]
    exact ⟨congrArg (fun z => some (Value.int z)) (hr.trans (own_rE cc (own_ge4 hn4 c16))).symm, N, K⟩
  have J3 : ∀ (TJ : State) (hJ : Heap) (vmJ : Vm) (kJ : Nat) (LJ : List Loc), Stand p l e ({ frames := 5, cells := 8, slots := 256, locals := 66 } : Room) (s.setVm vmJ) m #[(.ref a1)] below meth c TJ LJ 6 192 → TJ.heap = hJ → Keep h0 hJ [] → n0 ≤ hJ.size → Fr n0 LJ → s.Since vmJ kJ → kJ ≤ hJ.size → Z.Warmed39 (s.setVm vmJ).vm → (s.setVm vmJ).vm.findClass "com/example/operant/operant/HeaderFields" = some m.cls → CHr Z own_EL vm0 h0 vmJ hJ → own_res cc 0 nn = own_res cc 3 (nn - 3) → Go p e below (FinH s Z own_EL vm0 h0 (Q5_p Z a1 nn cc r1 ar_r1 n1 u_COMPACT_STRINGS u_SIOOBE_FORMATTER w_coder_a1 h0 n0) ({ frames := 5, cells := 8, slots := 256, locals := 66 } : Room).cells ({ frames := 5, cells := 8, slots := 256, locals := 66 } : Room).slots) TJ (mkF m 11 #[.val (.ref a1), .val (.int (3 : Int32)), .val (.int (cc 2))] []) := by
    intro TJ hJ vmJ kJ LJ X eT K Zs N hS hk hZ hown Rr hr
    have A_r1 := A_r1.ext (own_ext0 K)
    have E_a1 := E_a1.ext (own_ext0 K)
    have F_value_a1 := F_value_a1.ext (own_ext0 K)
    have F_coder_a1 := F_coder_a1.ext (own_ext0 K)
    refine own_iloadN X hx hby (3 : Int32) d5_11 rfl 12 rfl ?_
    refine own_aloadN X hx hby (.ref a1) d5_12 rfl rfl 13 rfl ?_
    refine own_callV X hx hby hZ (st := [(.int (3 : Int32))]) [] rfl hown (hw _ (List.mem_of_getElem? (i := 51) rfl)) (hw _ (List.mem_of_getElem? (i := 52) rfl)) (hw _ (List.mem_of_getElem? (i := 54) rfl)) (hw _ (List.mem_of_getElem? (i := 53) rfl)) (hw _ (List.mem_of_getElem? (i := 8) rfl)) (hw _ (List.mem_of_getElem? (i := 55) rfl)) E_a1 (by decide) d5_13 (rm11_p l Z a0 hw a1 nn cc r1 ar_r1 n1 w_coder_a1 u_COMPACT_STRINGS hJ n0 Zs hcs hstr hn4 A_r1 F_value_a1 F_coder_a1 (S_COMPACT_STRINGS.ext (own_ext0 K)) E_a1) eT pd_1 rfl (by rw [hml]; rfl) (by decide) 1 rfl (by decide) (by decide) (by decide) 16 rfl ?_
    intro T13 L9 v9 X hQ
    obtain ⟨rfl, N9, eT⟩ := hQ
    have N := Fr.app N N9
    show Go p e below _ T13 (mkF m 16 #[.val (.ref a1), .val (.int (3 : Int32)), .val (.int (cc 2))] [(.int (Nat.toInt32 nn)), (.int (3 : Int32))])
    refine own_icmp_ge X hx hby d5_16 49 19 (by decide) rfl (fun c16 => ?_) (fun c16 => ?_)
    · skip
      refine own_iconst X hx hby (1 : Int32) d5_49 rfl 50 rfl ?_
      refine own_retNH X hx hby hZ hS (Nat.le_trans hk (Nat.le_of_eq (by rw [eT]))) eT (own_hEL hw) Rr hret hlk (t := .boolean) (z' := (1 : Int32)) (by simp) d5_50 (by decide) (by decide) rfl ?_
      rw [eT]
      exact ⟨congrArg (fun z => some (Value.int z)) (hr.trans (own_rE cc (own_ge3 hn4 c16))).symm, N, K⟩
    · skip
      refine own_aloadN X hx hby (.ref a1) d5_19 rfl rfl 20 rfl ?_
      refine own_iloadN X hx hby (3 : Int32) d5_20 rfl 21 rfl ?_
      refine own_callV X hx hby hZ (st := []) [(.int (3 : Int32))] rfl hown (hw _ (List.mem_of_getElem? (i := 61) rfl)) (hw _ (List.mem_of_getElem? (i := 62) rfl)) (hw _ (List.mem_of_getElem? (i := 64) rfl)) (hw _ (List.mem_of_getElem? (i := 63) rfl)) (hw _ (List.mem_of_getElem? (i := 8) rfl)) (hw _ (List.mem_of_getElem? (i := 65) rfl)) E_a1 (by decide) d5_21 (rm13_3 l Z a0 hw a1 nn cc r1 ar_r1 n1 u_COMPACT_STRINGS u_SIOOBE_FORMATTER w_coder_a1 hJ n0 Zs hcs hsf hstr hn4 (own_lt3 hn4 c16) A_r1 (S_COMPACT_STRINGS.ext (own_ext0 K)) (S_SIOOBE_FORMATTER.ext (own_ext0 K)) E_a1 F_value_a1 F_coder_a1 (S__assertionsDisabled.ext (own_ext0 K)) (S_HI_BYTE_SHIFT.ext (own_ext0 K)) (S_LO_BYTE_SHIFT.ext (own_ext0 K))) eT pd_5 rfl (by rw [hml]; rfl) (by decide) 0 rfl (by decide) (by decide) (by decide) 24 rfl ?_
      intro T21 L9 v9 X hQ
      obtain ⟨rfl, N9, eT⟩ := hQ
      have N := Fr.app N N9
      show Go p e below _ T21 (mkF m 24 #[.val (.ref a1), .val (.int (3 : Int32)), .val (.int (cc 2))] [(.int (cc 3))])
      refine own_istoreN X hx hby d5_24 rfl (l' := #[.val (.ref a1), .val (.int (3 : Int32)), .val (.int (cc 3))]) rfl 25 rfl ?_
      refine own_iloadN X hx hby (cc 3) d5_25 rfl 26 rfl ?_
      refine own_callS X hx hby hZ (st := []) [(.int (cc 3))] rfl hown (hw _ (List.mem_of_getElem? (i := 83) rfl)) (hw _ (List.mem_of_getElem? (i := 84) rfl)) (hw _ (List.mem_of_getElem? (i := 30) rfl)) (hw _ (List.mem_of_getElem? (i := 85) rfl)) (by decide) d5_26 (rm18 l Z a0 hw (cc 3) hJ n0 Zs ) eT pd_4 rfl (by rw [hml]; rfl) (by decide) 0 rfl (by decide) (by decide) (by decide) 29 rfl ?_
      intro T26 L9 v9 X hQ
      obtain ⟨rfl, N9, eT⟩ := hQ
      have N := Fr.app N N9
      show Go p e below _ T26 (mkF m 29 #[.val (.ref a1), .val (.int (3 : Int32)), .val (.int (cc 3))] [(.int (f18 (cc 3)))])
      refine own_if_ne X hx hby d5_29 43 32 (by decide) rfl (fun c29 => ?_) (fun c29 => ?_)
      · skip
        refine own_iinc X hx hby d5_43 (x := (3 : Int32)) rfl (by decide) (l' := #[.val (.ref a1), .val (.int (4 : Int32)), .val (.int (cc 3))]) rfl 46 rfl ?_
        refine own_goto X hx hby d5_46 11 (by decide) ?_
        exact J4 _ _ _ _ _ (X.more (by decide) (by decide)) eT K Zs N hS hk hZ hown Rr (hr.trans (own_rY cc (own_lt3 hn4 c16) (own_tkA c29)))
      · skip
        refine own_ldcH X hx hby hZ hown (hw _ (List.mem_of_getElem? (i := 86) rfl)) (own_wS hw) eT hS hk (own_hEL hw) (List.mem_of_getElem? (i := 0) rfl) Rr.1 (vs := [.int 33, .int 35, .int 36, .int 37, .int 38, .int 39, .int 42, .int 43, .int 45, .int 46, .int 94, .int 95, .int 96, .int 124, .int 126]) (z := 15) own_t1 (by decide) rfl d5_32 (n := 60) own_t3 (by decide) (by decide) (by decide) 34 rfl ?_
        intro T32 h32 a32 r32 vm32 k32 X eT Ex hS hk hZ hown Es Fc Fv As Rc Dn
        have Rr := Rr.trans Rc
        have A_r1 := A_r1.ext Ex
        have E_a1 := E_a1.ext Ex
        have F_value_a1 := F_value_a1.ext Ex
        have F_coder_a1 := F_coder_a1.ext Ex
        have K := K.ext Ex
        have Zs := Nat.le_trans Zs Ex.1
        have A_r32 : Afi Z h32 r32 .byte 15 own_litF := Afn.to As own_lit15
        refine own_iloadN X hx hby (cc 3) d5_34 rfl 35 rfl ?_
        refine own_callV X hx hby hZ (st := []) [(.int (cc 3))] rfl hown (hw _ (List.mem_of_getElem? (i := 87) rfl)) (hw _ (List.mem_of_getElem? (i := 88) rfl)) (hw _ (List.mem_of_getElem? (i := 90) rfl)) (hw _ (List.mem_of_getElem? (i := 89) rfl)) (hw _ (List.mem_of_getElem? (i := 8) rfl)) (hw _ (List.mem_of_getElem? (i := 91) rfl)) Es (by decide) d5_35 (rm19 l Z a0 hw a32 (cc 3) r32 own_litF u_COMPACT_STRINGS h32 n0 Zs hcs A_r32 Fc Fv (S_COMPACT_STRINGS.ext (own_ext0 K)) Es) eT pd_6 rfl (by rw [hml]; rfl) (by decide) 0 rfl (by decide) (by decide) (by decide) 38 rfl ?_
        intro T35 L9 v9 X hQ
        obtain ⟨rfl, N9, eT⟩ := hQ
        have N := Fr.app N N9
        show Go p e below _ T35 (mkF m 38 #[.val (.ref a1), .val (.int (3 : Int32)), .val (.int (cc 3))] [(.int (f21 (cc 3) own_litF))])
        refine own_if_ge X hx hby d5_38 43 41 (by decide) rfl (fun c38 => ?_) (fun c38 => ?_)
        · skip
          refine own_iinc X hx hby d5_43 (x := (3 : Int32)) rfl (by decide) (l' := #[.val (.ref a1), .val (.int (4 : Int32)), .val (.int (cc 3))]) rfl 46 rfl ?_
          refine own_goto X hx hby d5_46 11 (by decide) ?_
          exact J4 _ _ _ _ _ (X.more (by decide) (by decide)) eT K Zs N hS hk hZ hown Rr (hr.trans (own_rY cc (own_lt3 hn4 c16) (own_tkB c29 c38)))
        · skip
          refine own_iconst X hx hby (0 : Int32) d5_41 rfl 42 rfl ?_
          refine own_retNH X hx hby hZ hS (Nat.le_trans hk (Nat.le_of_eq (by rw [eT]))) eT (own_hEL hw) Rr hret hlk (t := .boolean) (z' := (0 : Int32)) (by simp) d5_42 (by decide) (by decide) rfl ?_
          rw [eT]
          exact ⟨congrArg (fun z => some (Value.int z)) (hr.trans (own_rN cc (own_lt3 hn4 c16) (own_tkC c29 c38))).symm, N, K⟩
  have J2 : ∀ (TJ : State) (hJ : Heap) (vmJ : Vm) (kJ : Nat) (LJ : List Loc), Stand p l e ({ frames := 5, cells := 8, slots := 256, locals := 66 } : Room) (s.setVm vmJ) m #[(.ref a1)] below meth c TJ LJ 4 128 → TJ.heap = hJ → Keep h0 hJ [] → n0 ≤ hJ.size → Fr n0 LJ → s.Since vmJ kJ → kJ ≤ hJ.size → Z.Warmed39 (s.setVm vmJ).vm → (s.setVm vmJ).vm.findClass "com/example/operant/operant/HeaderFields" = some m.cls → CHr Z own_EL vm0 h0 vmJ hJ → own_res cc 0 nn = own_res cc 2 (nn - 2) → Go p e below (FinH s Z own_EL vm0 h0 (Q5_p Z a1 nn cc r1 ar_r1 n1 u_COMPACT_STRINGS u_SIOOBE_FORMATTER w_coder_a1 h0 n0) ({ frames := 5, cells := 8, slots := 256, locals := 66 } : Room).cells ({ frames := 5, cells := 8, slots := 256, locals := 66 } : Room).slots) TJ (mkF m 11 #[.val (.ref a1), .val (.int (2 : Int32)), .val (.int (cc 1))] []) := by
    intro TJ hJ vmJ kJ LJ X eT K Zs N hS hk hZ hown Rr hr
    have A_r1 := A_r1.ext (own_ext0 K)
    have E_a1 := E_a1.ext (own_ext0 K)
    have F_value_a1 := F_value_a1.ext (own_ext0 K)
    have F_coder_a1 := F_coder_a1.ext (own_ext0 K)
    refine own_iloadN X hx hby (2 : Int32) d5_11 rfl 12 rfl ?_
    refine own_aloadN X hx hby (.ref a1) d5_12 rfl rfl 13 rfl ?_
    refine own_callV X hx hby hZ (st := [(.int (2 : Int32))]) [] rfl hown (hw _ (List.mem_of_getElem? (i := 51) rfl)) (hw _ (List.mem_of_getElem? (i := 52) rfl)) (hw _ (List.mem_of_getElem? (i := 54) rfl)) (hw _ (List.mem_of_getElem? (i := 53) rfl)) (hw _ (List.mem_of_getElem? (i := 8) rfl)) (hw _ (List.mem_of_getElem? (i := 55) rfl)) E_a1 (by decide) d5_13 (rm11_p l Z a0 hw a1 nn cc r1 ar_r1 n1 w_coder_a1 u_COMPACT_STRINGS hJ n0 Zs hcs hstr hn4 A_r1 F_value_a1 F_coder_a1 (S_COMPACT_STRINGS.ext (own_ext0 K)) E_a1) eT pd_1 rfl (by rw [hml]; rfl) (by decide) 1 rfl (by decide) (by decide) (by decide) 16 rfl ?_
    intro T13 L9 v9 X hQ
    obtain ⟨rfl, N9, eT⟩ := hQ
    have N := Fr.app N N9
    show Go p e below _ T13 (mkF m 16 #[.val (.ref a1), .val (.int (2 : Int32)), .val (.int (cc 1))] [(.int (Nat.toInt32 nn)), (.int (2 : Int32))])
    refine own_icmp_ge X hx hby d5_16 49 19 (by decide) rfl (fun c16 => ?_) (fun c16 => ?_)
    · skip
      refine own_iconst X hx hby (1 : Int32) d5_49 rfl 50 rfl ?_
      refine own_retNH X hx hby hZ hS (Nat.le_trans hk (Nat.le_of_eq (by rw [eT]))) eT (own_hEL hw) Rr hret hlk (t := .boolean) (z' := (1 : Int32)) (by simp) d5_50 (by decide) (by decide) rfl ?_
      rw [eT]
      exact ⟨congrArg (fun z => some (Value.int z)) (hr.trans (own_rE cc (own_ge2 hn4 c16))).symm, N, K⟩
    · skip
      refine own_aloadN X hx hby (.ref a1) d5_19 rfl rfl 20 rfl ?_
      refine own_iloadN X hx hby (2 : Int32) d5_20 rfl 21 rfl ?_
      refine own_callV X hx hby hZ (st := []) [(.int (2 : Int32))] rfl hown (hw _ (List.mem_of_getElem? (i := 61) rfl)) (hw _ (List.mem_of_getElem? (i := 62) rfl)) (hw _ (List.mem_of_getElem? (i := 64) rfl)) (hw _ (List.mem_of_getElem? (i := 63) rfl)) (hw _ (List.mem_of_getElem? (i := 8) rfl)) (hw _ (List.mem_of_getElem? (i := 65) rfl)) E_a1 (by decide) d5_21 (rm13_2 l Z a0 hw a1 nn cc r1 ar_r1 n1 u_COMPACT_STRINGS u_SIOOBE_FORMATTER w_coder_a1 hJ n0 Zs hcs hsf hstr hn4 (own_lt2 hn4 c16) A_r1 (S_COMPACT_STRINGS.ext (own_ext0 K)) (S_SIOOBE_FORMATTER.ext (own_ext0 K)) E_a1 F_value_a1 F_coder_a1 (S__assertionsDisabled.ext (own_ext0 K)) (S_HI_BYTE_SHIFT.ext (own_ext0 K)) (S_LO_BYTE_SHIFT.ext (own_ext0 K))) eT pd_5 rfl (by rw [hml]; rfl) (by decide) 0 rfl (by decide) (by decide) (by decide) 24 rfl ?_
      intro T21 L9 v9 X hQ
      obtain ⟨rfl, N9, eT⟩ := hQ
      have N := Fr.app N N9
      show Go p e below _ T21 (mkF m 24 #[.val (.ref a1), .val (.int (2 : Int32)), .val (.int (cc 1))] [(.int (cc 2))])
      refine own_istoreN X hx hby d5_24 rfl (l' := #[.val (.ref a1), .val (.int (2 : Int32)), .val (.int (cc 2))]) rfl 25 rfl ?_
      refine own_iloadN X hx hby (cc 2) d5_25 rfl 26 rfl ?_
      refine own_callS X hx hby hZ (st := []) [(.int (cc 2))] rfl hown (hw _ (List.mem_of_getElem? (i := 83) rfl)) (hw _ (List.mem_of_getElem? (i := 84) rfl)) (hw _ (List.mem_of_getElem? (i := 30) rfl)) (hw _ (List.mem_of_getElem? (i := 85) rfl)) (by decide) d5_26 (rm18 l Z a0 hw (cc 2) hJ n0 Zs ) eT pd_4 rfl (by rw [hml]; rfl) (by decide) 0 rfl (by decide) (by decide) (by decide) 29 rfl ?_
      intro T26 L9 v9 X hQ
      obtain ⟨rfl, N9, eT⟩ := hQ
      have N := Fr.app N N9
      show Go p e below _ T26 (mkF m 29 #[.val (.ref a1), .val (.int (2 : Int32)), .val (.int (cc 2))] [(.int (f18 (cc 2)))])
      refine own_if_ne X hx hby d5_29 43 32 (by decide) rfl (fun c29 => ?_) (fun c29 => ?_)
      · skip
        refine own_iinc X hx hby d5_43 (x := (2 : Int32)) rfl (by decide) (l' := #[.val (.ref a1), .val (.int (3 : Int32)), .val (.int (cc 2))]) rfl 46 rfl ?_
        refine own_goto X hx hby d5_46 11 (by decide) ?_
        exact J3 _ _ _ _ _ (X.more (by decide) (by decide)) eT K Zs N hS hk hZ hown Rr (hr.trans (own_rY cc (own_lt2 hn4 c16) (own_tkA c29)))
      · skip
        refine own_ldcH X hx hby hZ hown (hw _ (List.mem_of_getElem? (i := 86) rfl)) (own_wS hw) eT hS hk (own_hEL hw) (List.mem_of_getElem? (i := 0) rfl) Rr.1 (vs := [.int 33, .int 35, .int 36, .int 37, .int 38, .int 39, .int 42, .int 43, .int 45, .int 46, .int 94, .int 95, .int 96, .int 124, .int 126]) (z := 15) own_t1 (by decide) rfl d5_32 (n := 60) own_t3 (by decide) (by decide) (by decide) 34 rfl ?_
        intro T32 h32 a32 r32 vm32 k32 X eT Ex hS hk hZ hown Es Fc Fv As Rc Dn
        have Rr := Rr.trans Rc
        have A_r1 := A_r1.ext Ex
        have E_a1 := E_a1.ext Ex
        have F_value_a1 := F_value_a1.ext Ex
        have F_coder_a1 := F_coder_a1.ext Ex
        have K := K.ext Ex
        have Zs := Nat.le_trans Zs Ex.1
        have A_r32 : Afi Z h32 r32 .byte 15 own_litF := Afn.to As own_lit15
        refine own_iloadN X hx hby (cc 2) d5_34 rfl 35 rfl ?_
        refine own_callV X hx hby hZ (st := []) [(.int (cc 2))] rfl hown (hw _ (List.mem_of_getElem? (i := 87) rfl)) (hw _ (List.mem_of_getElem? (i := 88) rfl)) (hw _ (List.mem_of_getElem? (i := 90) rfl)) (hw _ (List.mem_of_getElem? (i := 89) rfl)) (hw _ (List.mem_of_getElem? (i := 8) rfl)) (hw _ (List.mem_of_getElem? (i := 91) rfl)) Es (by decide) d5_35 (rm19 l Z a0 hw a32 (cc 2) r32 own_litF u_COMPACT_STRINGS h32 n0 Zs hcs A_r32 Fc Fv (S_COMPACT_STRINGS.ext (own_ext0 K)) Es) eT pd_6 rfl (by rw [hml]; rfl) (by decide) 0 rfl (by decide) (by decide) (by decide) 38 rfl ?_
        intro T35 L9 v9 X hQ
        obtain ⟨rfl, N9, eT⟩ := hQ
        have N := Fr.app N N9
        show Go p e below _ T35 (mkF m 38 #[.val (.ref a1), .val (.int (2 : Int32)), .val (.int (cc 2))] [(.int (f21 (cc 2) own_litF))])
        refine own_if_ge X hx hby d5_38 43 41 (by decide) rfl (fun c38 => ?_) (fun c38 => ?_)
        · skip
          refine own_iinc X hx hby d5_43 (x := (2 : Int32)) rfl (by decide) (l' := #[.val (.ref a1), .val (.int (3 : Int32)), .val (.int (cc 2))]) rfl 46 rfl ?_
          refine own_goto X hx hby d5_46 11 (by decide) ?_
          exact J3 _ _ _ _ _ (X.more (by decide) (by decide)) eT K Zs N hS hk hZ hown Rr (hr.trans (own_rY cc (own_lt2 hn4 c16) (own_tkB c29 c38)))
        · skip
          refine own_iconst X hx hby (0 : Int32) d5_41 rfl 42 rfl ?_
          refine own_retNH X hx hby hZ hS (Nat.le_trans hk (Nat.le_of_eq (by rw [eT]))) eT (own_hEL hw) Rr hret hlk (t := .boolean) (z' := (0 : Int32)) (by simp) d5_42 (by decide) (by decide) rfl ?_
          rw [eT]
          exact ⟨congrArg (fun z => some (Value.int z)) (hr.trans (own_rN cc (own_lt2 hn4 c16) (own_tkC c29 c38))).symm, N, K⟩
  have J1 : ∀ (TJ : State) (hJ : Heap) (vmJ : Vm) (kJ : Nat) (LJ : List Loc), Stand p l e ({ frames := 5, cells := 8, slots := 256, locals := 66 } : Room) (s.setVm vmJ) m #[(.ref a1)] below meth c TJ LJ 2 64 → TJ.heap = hJ → Keep h0 hJ [] → n0 ≤ hJ.size → Fr n0 LJ → s.Since vmJ kJ → kJ ≤ hJ.size → Z.Warmed39 (s.setVm vmJ).vm → (s.setVm vmJ).vm.findClass "com/example/operant/operant/HeaderFields" = some m.cls → CHr Z own_EL vm0 h0 vmJ hJ → own_res cc 0 nn = own_res cc 1 (nn - 1) → Go p e below (FinH s Z own_EL vm0 h0 (Q5_p Z a1 nn cc r1 ar_r1 n1 u_COMPACT_STRINGS u_SIOOBE_FORMATTER w_coder_a1 h0 n0) ({ frames := 5, cells := 8, slots := 256, locals := 66 } : Room).cells ({ frames := 5, cells := 8, slots := 256, locals := 66 } : Room).slots) TJ (mkF m 11 #[.val (.ref a1), .val (.int (1 : Int32)), .val (.int (cc 0))] []) := by
    intro TJ hJ vmJ kJ LJ X eT K Zs N hS hk hZ hown Rr hr
    have A_r1 := A_r1.ext (own_ext0 K)
    have E_a1 := E_a1.ext (own_ext0 K)
    have F_value_a1 := F_value_a1.ext (own_ext0 K)
    have F_coder_a1 := F_coder_a1.ext (own_ext0 K)
    refine own_iloadN X hx hby (1 : Int32) d5_11 rfl 12 rfl ?_
    refine own_aloadN X hx hby (.ref a1) d5_12 rfl rfl 13 rfl ?_
    refine own_callV X hx hby hZ (st := [(.int (1 : Int32))]) [] rfl hown (hw _ (List.mem_of_getElem? (i := 51) rfl)) (hw _ (List.mem_of_getElem? (i := 52) rfl)) (hw _ (List.mem_of_getElem? (i := 54) rfl)) (hw _ (List.mem_of_getElem? (i := 53) rfl)) (hw _ (List.mem_of_getElem? (i := 8) rfl)) (hw _ (List.mem_of_getElem? (i := 55) rfl)) E_a1 (by decide) d5_13 (rm11_p l Z a0 hw a1 nn cc r1 ar_r1 n1 w_coder_a1 u_COMPACT_STRINGS hJ n0 Zs hcs hstr hn4 A_r1 F_value_a1 F_coder_a1 (S_COMPACT_STRINGS.ext (own_ext0 K)) E_a1) eT pd_1 rfl (by rw [hml]; rfl) (by decide) 1 rfl (by decide) (by decide) (by decide) 16 rfl ?_
    intro T13 L9 v9 X hQ
    obtain ⟨rfl, N9, eT⟩ := hQ
    have N := Fr.app N N9
    show Go p e below _ T13 (mkF m 16 #[.val (.ref a1), .val (.int (1 : Int32)), .val (.int (cc 0))] [(.int (Nat.toInt32 nn)), (.int (1 : Int32))])
    refine own_icmp_ge X hx hby d5_16 49 19 (by decide) rfl (fun c16 => ?_) (fun c16 => ?_)
    · skip
      refine own_iconst X hx hby (1 : Int32) d5_49 rfl 50 rfl ?_
      refine own_retNH X hx hby hZ hS (Nat.le_trans hk (Nat.le_of_eq (by rw [eT]))) eT (own_hEL hw) Rr hret hlk (t := .boolean) (z' := (1 : Int32)) (by simp) d5_50 (by decide) (by decide) rfl ?_
      rw [eT]
      exact ⟨congrArg (fun z => some (Value.int z)) (hr.trans (own_rE cc (own_ge1 hn4 c16))).symm, N, K⟩
    · skip
      refine own_aloadN X hx hby (.ref a1) d5_19 rfl rfl 20 rfl ?_
      refine own_iloadN X hx hby (1 : Int32) d5_20 rfl 21 rfl ?_
      refine own_callV X hx hby hZ (st := []) [(.int (1 : Int32))] rfl hown (hw _ (List.mem_of_getElem? (i := 61) rfl)) (hw _ (List.mem_of_getElem? (i := 62) rfl)) (hw _ (List.mem_of_getElem? (i := 64) rfl)) (hw _ (List.mem_of_getElem? (i := 63) rfl)) (hw _ (List.mem_of_getElem? (i := 8) rfl)) (hw _ (List.mem_of_getElem? (i := 65) rfl)) E_a1 (by decide) d5_21 (rm13_1 l Z a0 hw a1 nn cc r1 ar_r1 n1 u_COMPACT_STRINGS u_SIOOBE_FORMATTER w_coder_a1 hJ n0 Zs hcs hsf hstr hn4 (own_lt1 hn4 c16) A_r1 (S_COMPACT_STRINGS.ext (own_ext0 K)) (S_SIOOBE_FORMATTER.ext (own_ext0 K)) E_a1 F_value_a1 F_coder_a1 (S__assertionsDisabled.ext (own_ext0 K)) (S_HI_BYTE_SHIFT.ext (own_ext0 K)) (S_LO_BYTE_SHIFT.ext (own_ext0 K))) eT pd_5 rfl (by rw [hml]; rfl) (by decide) 0 rfl (by decide) (by decide) (by decide) 24 rfl ?_
      intro T21 L9 v9 X hQ
      obtain ⟨rfl, N9, eT⟩ := hQ
      have N := Fr.app N N9
      show Go p e below _ T21 (mkF m 24 #[.val (.ref a1), .val (.int (1 : Int32)), .val (.int (cc 0))] [(.int (cc 1))])
      refine own_istoreN X hx hby d5_24 rfl (l' := #[.val (.ref a1), .val (.int (1 : Int32)), .val (.int (cc 1))]) rfl 25 rfl ?_
      refine own_iloadN X hx hby (cc 1) d5_25 rfl 26 rfl ?_
      refine own_callS X hx hby hZ (st := []) [(.int (cc 1))] rfl hown (hw _ (List.mem_of_getElem? (i := 83) rfl)) (hw _ (List.mem_of_getElem? (i := 84) rfl)) (hw _ (List.mem_of_getElem? (i := 30) rfl)) (hw _ (List.mem_of_getElem? (i := 85) rfl)) (by decide) d5_26 (rm18 l Z a0 hw (cc 1) hJ n0 Zs ) eT pd_4 rfl (by rw [hml]; rfl) (by decide) 0 rfl (by decide) (by decide) (by decide) 29 rfl ?_
      intro T26 L9 v9 X hQ
      obtain ⟨rfl, N9, eT⟩ := hQ
      have N := Fr.app N N9
      show Go p e below _ T26 (mkF m 29 #[.val (.ref a1), .val (.int (1 : Int32)), .val (.int (cc 1))] [(.int (f18 (cc 1)))])
      refine own_if_ne X hx hby d5_29 43 32 (by decide) rfl (fun c29 => ?_) (fun c29 => ?_)
      · skip
        refine own_iinc X hx hby d5_43 (x := (1 : Int32)) rfl (by decide) (l' := #[.val (.ref a1), .val (.int (2 : Int32)), .val (.int (cc 1))]) rfl 46 rfl ?_
        refine own_goto X hx hby d5_46 11 (by decide) ?_
        exact J2 _ _ _ _ _ (X.more (by decide) (by decide)) eT K Zs N hS hk hZ hown Rr (hr.trans (own_rY cc (own_lt1 hn4 c16) (own_tkA c29)))
      · skip
        refine own_ldcH X hx hby hZ hown (hw _ (List.mem_of_getElem? (i := 86) rfl)) (own_wS hw) eT hS hk (own_hEL hw) (List.mem_of_getElem? (i := 0) rfl) Rr.1 (vs := [.int 33, .int 35, .int 36, .int 37, .int 38, .int 39, .int 42, .int 43, .int 45, .int 46, .int 94, .int 95, .int 96, .int 124, .int 126]) (z := 15) own_t1 (by decide) rfl d5_32 (n := 60) own_t3 (by decide) (by decide) (by decide) 34 rfl ?_
        intro T32 h32 a32 r32 vm32 k32 X eT Ex hS hk hZ hown Es Fc Fv As Rc Dn
        have Rr := Rr.trans Rc
        have A_r1 := A_r1.ext Ex
        have E_a1 := E_a1.ext Ex
        have F_value_a1 := F_value_a1.ext Ex
        have F_coder_a1 := F_coder_a1.ext Ex
        have K := K.ext Ex
        have Zs := Nat.le_trans Zs Ex.1
        have A_r32 : Afi Z h32 r32 .byte 15 own_litF := Afn.to As own_lit15
        refine own_iloadN X hx hby (cc 1) d5_34 rfl 35 rfl ?_
        refine own_callV X hx hby hZ (st := []) [(.int (cc 1))] rfl hown (hw _ (List.mem_of_getElem? (i := 87) rfl)) (hw _ (List.mem_of_getElem? (i := 88) rfl)) (hw _ (List.mem_of_getElem? (i := 90) rfl)) (hw _ (List.mem_of_getElem? (i := 89) rfl)) (hw _ (List.mem_of_getElem? (i := 8) rfl)) (hw _ (List.mem_of_getElem? (i := 91) rfl)) Es (by decide) d5_35 (rm19 l Z a0 hw a32 (cc 1) r32 own_litF u_COMPACT_STRINGS h32 n0 Zs hcs A_r32 Fc Fv (S_COMPACT_STRINGS.ext (own_ext0 K)) Es) eT pd_6 rfl (by rw [hml]; rfl) (by decide) 0 rfl (by decide) (by decide) (by decide) 38 rfl ?_
        intro T35 L9 v9 X hQ
        obtain ⟨rfl, N9, eT⟩ := hQ
        have N := Fr.app N N9
        show Go p e below _ T35 (mkF m 38 #[.val (.ref a1), .val (.int (1 : Int32)), .val (.int (cc 1))] [(.int (f21 (cc 1) own_litF))])
        refine own_if_ge X hx hby d5_38 43 41 (by decide) rfl (fun c38 => ?_) (fun c38 => ?_)
        · skip
          refine own_iinc X hx hby d5_43 (x := (1 : Int32)) rfl (by decide) (l' := #[.val (.ref a1), .val (.int (2 : Int32)), .val (.int (cc 1))]) rfl 46 rfl ?_
          refine own_goto X hx hby d5_46 11 (by decide) ?_
          exact J2 _ _ _ _ _ (X.more (by decide) (by decide)) eT K Zs N hS hk hZ hown Rr (hr.trans (own_rY cc (own_lt1 hn4 c16) (own_tkB c29 c38)))
        · skip
          refine own_iconst X hx hby (0 : Int32) d5_41 rfl 42 rfl ?_
          refine own_retNH X hx hby hZ hS (Nat.le_trans hk (Nat.le_of_eq (by rw [eT]))) eT (own_hEL hw) Rr hret hlk (t := .boolean) (z' := (0 : Int32)) (by simp) d5_42 (by decide) (by decide) rfl ?_
          rw [eT]
          exact ⟨congrArg (fun z => some (Value.int z)) (hr.trans (own_rN cc (own_lt1 hn4 c16) (own_tkC c29 c38))).symm, N, K⟩
  have J0 : ∀ (TJ : State) (hJ : Heap) (vmJ : Vm) (kJ : Nat) (LJ : List Loc), Stand p l e ({ frames := 5, cells := 8, slots := 256, locals := 66 } : Room) (s.setVm vmJ) m #[(.ref a1)] below meth c TJ LJ 0 0 → TJ.heap = hJ → Keep h0 hJ [] → n0 ≤ hJ.size → Fr n0 LJ → s.Since vmJ kJ → kJ ≤ hJ.size → Z.Warmed39 (s.setVm vmJ).vm → (s.setVm vmJ).vm.findClass "com/example/operant/operant/HeaderFields" = some m.cls → CHr Z own_EL vm0 h0 vmJ hJ → own_res cc 0 nn = own_res cc 0 (nn - 0) → Go p e below (FinH s Z own_EL vm0 h0 (Q5_p Z a1 nn cc r1 ar_r1 n1 u_COMPACT_STRINGS u_SIOOBE_FORMATTER w_coder_a1 h0 n0) ({ frames := 5, cells := 8, slots := 256, locals := 66 } : Room).cells ({ frames := 5, cells := 8, slots := 256, locals := 66 } : Room).slots) TJ (mkF m 11 #[.val (.ref a1), .val (.int (0 : Int32)), .unset] []) := by
    intro TJ hJ vmJ kJ LJ X eT K Zs N hS hk hZ hown Rr hr
    have A_r1 := A_r1.ext (own_ext0 K)
    have E_a1 := E_a1.ext (own_ext0 K)
    have F_value_a1 := F_value_a1.ext (own_ext0 K)
    have F_coder_a1 := F_coder_a1.ext (own_ext0 K)
    refine own_iloadN X hx hby (0 : Int32) d5_11 rfl 12 rfl ?_
    refine own_aloadN X hx hby (.ref a1) d5_12 rfl rfl 13 rfl ?_
    refine own_callV X hx hby hZ (st := [(.int (0 : Int32))]) [] rfl hown (hw _ (List.mem_of_getElem? (i := 51) rfl)) (hw _ (List.mem_of_getElem? (i := 52) rfl)) (hw _ (List.mem_of_getElem? (i := 54) rfl)) (hw _ (List.mem_of_getElem? (i := 53) rfl)) (hw _ (List.mem_of_getElem? (i := 8) rfl)) (hw _ (List.mem_of_getElem? (i := 55) rfl)) E_a1 (by decide) d5_13 (rm11_p l Z a0 hw a1 nn cc r1 ar_r1 n1 w_coder_a1 u_COMPACT_STRINGS hJ n0 Zs hcs hstr hn4 A_r1 F_value_a1 F_coder_a1 (S_COMPACT_STRINGS.ext (own_ext0 K)) E_a1) eT pd_1 rfl (by rw [hml]; rfl) (by decide) 1 rfl (by decide) (by decide) (by decide) 16 rfl ?_
    intro T13 L9 v9 X hQ
    obtain ⟨rfl, N9, eT⟩ := hQ
    have N := Fr.app N N9
    show Go p e below _ T13 (mkF m 16 #[.val (.ref a1), .val (.int (0 : Int32)), .unset] [(.int (Nat.toInt32 nn)), (.int (0 : Int32))])
    refine own_icmp_ge X hx hby d5_16 49 19 (by decide) rfl (fun c16 => ?_) (fun c16 => ?_)
    · skip
      refine own_iconst X hx hby (1 : Int32) d5_49 rfl 50 rfl ?_
      refine own_retNH X hx hby hZ hS (Nat.le_trans hk (Nat.le_of_eq (by rw [eT]))) eT (own_hEL hw) Rr hret hlk (t := .boolean) (z' := (1 : Int32)) (by simp) d5_50 (by decide) (by decide) rfl ?_
      rw [eT]
      exact ⟨congrArg (fun z => some (Value.int z)) (hr.trans (own_rE cc (own_ge0 hn4 c16))).symm, N, K⟩
    · skip
      refine own_aloadN X hx hby (.ref a1) d5_19 rfl rfl 20 rfl ?_
      refine own_iloadN X hx hby (0 : Int32) d5_20 rfl 21 rfl ?_
      refine own_callV X hx hby hZ (st := []) [(.int (0 : Int32))] rfl hown (hw _ (List.mem_of_getElem? (i := 61) rfl)) (hw _ (List.mem_of_getElem? (i := 62) rfl)) (hw _ (List.mem_of_getElem? (i := 64) rfl)) (hw _ (List.mem_of_getElem? (i := 63) rfl)) (hw _ (List.mem_of_getElem? (i := 8) rfl)) (hw _ (List.mem_of_getElem? (i := 65) rfl)) E_a1 (by decide) d5_21 (rm13_0 l Z a0 hw a1 nn cc r1 ar_r1 n1 u_COMPACT_STRINGS u_SIOOBE_FORMATTER w_coder_a1 hJ n0 Zs hcs hsf hstr hn4 (own_lt0 hn4 c16) A_r1 (S_COMPACT_STRINGS.ext (own_ext0 K)) (S_SIOOBE_FORMATTER.ext (own_ext0 K)) E_a1 F_value_a1 F_coder_a1 (S__assertionsDisabled.ext (own_ext0 K)) (S_HI_BYTE_SHIFT.ext (own_ext0 K)) (S_LO_BYTE_SHIFT.ext (own_ext0 K))) eT pd_5 rfl (by rw [hml]; rfl) (by decide) 0 rfl (by decide) (by decide) (by decide) 24 rfl ?_
      intro T21 L9 v9 X hQ
      obtain ⟨rfl, N9, eT⟩ := hQ
      have N := Fr.app N N9
      show Go p e below _ T21 (mkF m 24 #[.val (.ref a1), .val (.int (0 : Int32)), .unset] [(.int (cc 0))])
      refine own_istoreN X hx hby d5_24 rfl (l' := #[.val (.ref a1), .val (.int (0 : Int32)), .val (.int (cc 0))]) rfl 25 rfl ?_
      refine own_iloadN X hx hby (cc 0) d5_25 rfl 26 rfl ?_
      refine own_callS X hx hby hZ (st := []) [(.int (cc 0))] rfl hown (hw _ (List.mem_of_getElem? (i := 83) rfl)) (hw _ (List.mem_of_getElem? (i := 84) rfl)) (hw _ (List.mem_of_getElem? (i := 30) rfl)) (hw _ (List.mem_of_getElem? (i := 85) rfl)) (by decide) d5_26 (rm18 l Z a0 hw (cc 0) hJ n0 Zs ) eT pd_4 rfl (by rw [hml]; rfl) (by decide) 0 rfl (by decide) (by decide) (by decide) 29 rfl ?_
      intro T26 L9 v9 X hQ
      obtain ⟨rfl, N9, eT⟩ := hQ
      have N := Fr.app N N9
      show Go p e below _ T26 (mkF m 29 #[.val (.ref a1), .val (.int (0 : Int32)), .val (.int (cc 0))] [(.int (f18 (cc 0)))])
      refine own_if_ne X hx hby d5_29 43 32 (by decide) rfl (fun c29 => ?_) (fun c29 => ?_)
      · skip
        refine own_iinc X hx hby d5_43 (x := (0 : Int32)) rfl (by decide) (l' := #[.val (.ref a1), .val (.int (1 : Int32)), .val (.int (cc 0))]) rfl 46 rfl ?_
        refine own_goto X hx hby d5_46 11 (by decide) ?_
        exact J1 _ _ _ _ _ (X.more (by decide) (by decide)) eT K Zs N hS hk hZ hown Rr (hr.trans (own_rY cc (own_lt0 hn4 c16) (own_tkA c29)))
      · skip
        refine own_ldcH X hx hby hZ hown (hw _ (List.mem_of_getElem? (i := 86) rfl)) (own_wS hw) eT hS hk (own_hEL hw) (List.mem_of_getElem? (i := 0) rfl) Rr.1 (vs := [.int 33, .int 35, .int 36, .int 37, .int 38, .int 39, .int 42, .int 43, .int 45, .int 46, .int 94, .int 95, .int 96, .int 124, .int 126]) (z := 15) own_t1 (by decide) rfl d5_32 (n := 60) own_t3 (by decide) (by decide) (by decide) 34 rfl ?_
        intro T32 h32 a32 r32 vm32 k32 X eT Ex hS hk hZ hown Es Fc Fv As Rc Dn
        have Rr := Rr.trans Rc
        have A_r1 := A_r1.ext Ex
        have E_a1 := E_a1.ext Ex
        have F_value_a1 := F_value_a1.ext Ex
        have F_coder_a1 := F_coder_a1.ext Ex
        have K := K.ext Ex
        have Zs := Nat.le_trans Zs Ex.1
        have A_r32 : Afi Z h32 r32 .byte 15 own_litF := Afn.to As own_lit15
        refine own_iloadN X hx hby (cc 0) d5_34 rfl 35 rfl ?_
        refine own_callV X hx hby hZ (st := []) [(.int (cc 0))] rfl hown (hw _ (List.mem_of_getElem? (i := 87) rfl)) (hw _ (List.mem_of_getElem? (i := 88) rfl)) (hw _ (List.mem_of_getElem? (i := 90) rfl)) (hw _ (List.mem_of_getElem? (i := 89) rfl)) (hw _ (List.mem_of_getElem? (i := 8) rfl)) (hw _ (List.mem_of_getElem? (i := 91) rfl)) Es (by decide) d5_35 (rm19 l Z a0 hw a32 (cc 0) r32 own_litF u_COMPACT_STRINGS h32 n0 Zs hcs A_r32 Fc Fv (S_COMPACT_STRINGS.ext (own_ext0 K)) Es) eT pd_6 rfl (by rw [hml]; rfl) (by decide) 0 rfl (by decide) (by decide) (by decide) 38 rfl ?_
        intro T35 L9 v9 X hQ
        obtain ⟨rfl, N9, eT⟩ := hQ
        have N := Fr.app N N9
        show Go p e below _ T35 (mkF m 38 #[.val (.ref a1), .val (.int (0 : Int32)), .val (.int (cc 0))] [(.int (f21 (cc 0) own_litF))])
        refine own_if_ge X hx hby d5_38 43 41 (by decide) rfl (fun c38 => ?_) (fun c38 => ?_)
        · skip
          refine own_iinc X hx hby d5_43 (x := (0 : Int32)) rfl (by decide) (l' := #[.val (.ref a1), .val (.int (1 : Int32)), .val (.int (cc 0))]) rfl 46 rfl ?_
          refine own_goto X hx hby d5_46 11 (by decide) ?_
          exact J1 _ _ _ _ _ (X.more (by decide) (by decide)) eT K Zs N hS hk hZ hown Rr (hr.trans (own_rY cc (own_lt0 hn4 c16) (own_tkB c29 c38)))
        · skip
          refine own_iconst X hx hby (0 : Int32) d5_41 rfl 42 rfl ?_
          refine own_retNH X hx hby hZ hS (Nat.le_trans hk (Nat.le_of_eq (by rw [eT]))) eT (own_hEL hw) Rr hret hlk (t := .boolean) (z' := (0 : Int32)) (by simp) d5_42 (by decide) (by decide) rfl ?_
          rw [eT]
          exact ⟨congrArg (fun z => some (Value.int z)) (hr.trans (own_rN cc (own_lt0 hn4 c16) (own_tkC c29 c38))).symm, N, K⟩
  exact J0 _ _ _ _ _ X eT K Zs N hS hk hZ hown Rr rfl
theorem ef_0 (p1 : Int32) (p2 : Int32) (p3 : Int32) (p4 : Int32) (p5 : Int32) (m : MethodId) : entryFrame m #[(.int p1), (.int p2), (.int p3), (.int p4), (.int p5)] maxLocals = mkF m 0 #[.val (.int p1), .val (.int p2), .val (.int p3), .val (.int p4), .val (.int p5), .unset, .unset, .unset, .unset, .unset, .unset, .unset] [] := by first | (simp [entryFrame, mkF, argsToLocals, Value.category, maxLocals]; done) | rfl
def Q0 (Z : State) (p1 : Int32) (p2 : Int32) (p3 : Int32) (p4 : Int32) (p5 : Int32) (u_COMPACT_STRINGS : Int32) (u_SIOOBE_FORMATTER : Value) (h0 : Heap) (n0 : Nat) (v : Option Value) (h : Heap) (L : List Loc) : Prop := v = some (.int (1 : Int32)) ∧ Fr n0 L
theorem own_five (z v : Int32) (e : ((z &&& (2147483647 : Int32)) % (5 : Int32)) = v) : v = (0 : Int32) ∨ v = (1 : Int32) ∨ v = (2 : Int32) ∨ v = (3 : Int32) ∨ v = (4 : Int32) := by
  have h := c_mask z (2147483647 : Int32) 31 (by decide) (by decide)
  have h1 := c_irem (z &&& (2147483647 : Int32)) (5 : Int32) 5 (by decide)
  rw [e] at h1
  have h2 := h1.1 (by omega)
  simp only [← Int32.toInt_inj, Int32.reduceToInt]
  omega
theorem own_dr (x v : Int32) (e : f1 x = v) : 0 ≤ v.toInt ∧ v.toInt < 65536 := by
  rw [← e]
  unfold f1
  split <;> exact own_ncr _
theorem own_rgU {g : Nat → Int32} (h : ∀ i, 0 ≤ (g i).toInt ∧ (g i).toInt < 65536) (k : Nat) (x : Int32) : ∀ i, 0 ≤ (updI g k (nar .char x) i).toInt ∧ (updI g k (nar .char x) i).toInt < 65536 := by
  intro i
  by_cases q : i = k
  · simp only [updI, if_pos q]
    exact own_ncr x
  · simp only [updI, if_neg q]
    exact h i
theorem own_rg0 : ∀ i : Nat, 0 ≤ ((fun _ => (0 : Int32)) i : Int32).toInt ∧ ((fun _ => (0 : Int32)) i : Int32).toInt < 65536 := fun _ => ⟨by show (0 : Int) ≤ (0 : Int32).toInt; decide, by show (0 : Int32).toInt < (65536 : Int); decide⟩
theorem own_tk256 : ∀ n, n < 256 → own_tk (Int32.ofNat n) = own_tok (Int32.ofNat n) := by decide +kernel
theorem own_tkE (x : Int32) (hr : 0 ≤ x.toInt ∧ x.toInt < 65536) : own_tk x = own_tok x := by
  by_cases h : x.toInt < 256
  · obtain ⟨n, hn, rfl⟩ : ∃ n : Nat, n < 256 ∧ x = Int32.ofNat n := ⟨x.toInt.toNat, by omega, by rw [← Int32.toInt_inj, Int32.toInt_ofNat_of_lt (by omega)]; omega⟩
    exact own_tk256 n hn
  · have c0 : f22 x = (0 : Int32) := by
      unfold f22
      simp only [Int32.lt_iff_toInt_lt, ← Int32.toInt_inj, Int32.reduceToInt]
      repeat' split
      all_goals first | rfl | (exfalso; omega)
    have c1 : f18 x = (0 : Int32) := by
      unfold f18
      simp only [Int32.lt_iff_toInt_lt, ← Int32.toInt_inj, Int32.reduceToInt]
      repeat' split
      all_goals first | rfl | (exfalso; omega)
    have hne : ∀ k : Int32, k.toInt < 256 → ¬ x = k := fun k hk q => h (by rw [q]; exact hk)
    have c42 : own_g42 x = (0 : Int32) := by
      unfold own_g42
      rw [if_neg (hne (33 : Int32) (by decide)), if_neg (hne (35 : Int32) (by decide)), if_neg (hne (36 : Int32) (by decide)), if_neg (hne (37 : Int32) (by decide)), if_neg (hne (38 : Int32) (by decide)), if_neg (hne (39 : Int32) (by decide)), if_neg (hne (42 : Int32) (by decide)), if_neg (hne (43 : Int32) (by decide)), if_neg (hne (45 : Int32) (by decide)), if_neg (hne (46 : Int32) (by decide)), if_neg (hne (94 : Int32) (by decide)), if_neg (hne (95 : Int32) (by decide)), if_neg (hne (96 : Int32) (by decide)), if_neg (hne (124 : Int32) (by decide)), if_neg (hne (126 : Int32) (by decide))]
    have c28 : own_g28 x = (0 : Int32) := by
      unfold own_g28
      simp only [Int32.lt_iff_toInt_lt, Int32.reduceToInt]
      repeat' split
      all_goals first | exact c42 | (exfalso; omega)
    have c14 : own_g14 x = (0 : Int32) := by
      unfold own_g14
      simp only [Int32.lt_iff_toInt_lt, Int32.reduceToInt]
      repeat' split
      all_goals first | exact c28 | (exfalso; omega)
    have c2 : own_tok x = (0 : Int32) := by
      unfold own_tok
      simp only [Int32.lt_iff_toInt_lt, Int32.reduceToInt]
      repeat' split
      all_goals first | exact c14 | (exfalso; omega)
    have c3 : own_idx x = (-1 : Int32) := by
      unfold own_idx f21
      rw [if_pos c0]
    rw [c2]
    exact own_tkC c1 (by rw [c3]; decide)
theorem own_ite01 {q : Prop} [Decidable q] {y : Int32} (h : y = (0 : Int32) ∨ y = (1 : Int32)) : (if q then (1 : Int32) else y) = (0 : Int32) ∨ (if q then (1 : Int32) else y) = (1 : Int32) := by
  by_cases c : q
  · rw [if_pos c]
    exact Or.inr rfl
  · rw [if_neg c]
    exact h
theorem own_o42 (x : Int32) : own_g42 x = (0 : Int32) ∨ own_g42 x = (1 : Int32) := by
  unfold own_g42
  exact own_ite01 (own_ite01 (own_ite01 (own_ite01 (own_ite01 (own_ite01 (own_ite01 (own_ite01 (own_ite01 (own_ite01 (own_ite01 (own_ite01 (own_ite01 (own_ite01 (own_ite01 (Or.inl rfl)))))))))))))))
theorem own_o28 (x : Int32) : own_g28 x = (0 : Int32) ∨ own_g28 x = (1 : Int32) := by
  unfold own_g28
  repeat' split
  all_goals first | exact own_o42 x | exact Or.inr rfl
theorem own_o14 (x : Int32) : own_g14 x = (0 : Int32) ∨ own_g14 x = (1 : Int32) := by
  unfold own_g14
  repeat' split
  all_goals first | exact own_o28 x | exact Or.inr rfl
theorem own_tok01 (x : Int32) : own_tok x = (0 : Int32) ∨ own_tok x = (1 : Int32) := by
  unfold own_tok
  repeat' split
  all_goals first | exact own_o14 x | exact Or.inr rfl
theorem own_law1 (v0 j : Int32) (h0 : 0 ≤ v0.toInt ∧ v0.toInt < 65536) (ej : j = (if (own_tok v0) = (0 : Int32) then (0 : Int32) else (1 : Int32))) : own_res (updI (fun _ => (0 : Int32)) 0 (nar .char v0)) 0 1 = j := by
  rw [ej]
  have e : own_res (updI (fun _ => (0 : Int32)) 0 (nar .char v0)) 0 1 = (if own_tk (nar .char v0) = (1 : Int32) then (1 : Int32) else (0 : Int32)) := by first | rfl | simp [own_res, updI]
  rw [e, own_nce _ h0, own_tkE _ h0]
  rcases own_tok01 v0 with q0 | q0 <;> first | (simp [q0]; done) | (simp only [q0]; decide) | (simp only [q0]; rfl)
theorem own_law2 (v0 v1 j : Int32) (h0 : 0 ≤ v0.toInt ∧ v0.toInt < 65536) (h1 : 0 ≤ v1.toInt ∧ v1.toInt < 65536) (ej : j = (if (own_tok v0) = (0 : Int32) then (0 : Int32) else (if (own_tok v1) = (0 : Int32) then (0 : Int32) else (1 : Int32)))) : own_res (updI (updI (fun _ => (0 : Int32)) 0 (nar .char v0)) 1 (nar .char v1)) 0 2 = j := by
  rw [ej]
  have e : own_res (updI (updI (fun _ => (0 : Int32)) 0 (nar .char v0)) 1 (nar .char v1)) 0 2 = (if own_tk (nar .char v0) = (1 : Int32) then (if own_tk (nar .char v1) = (1 : Int32) then (1 : Int32) else (0 : Int32)) else (0 : Int32)) := by first | rfl | simp [own_res, updI]
  rw [e, own_nce _ h0, own_nce _ h1, own_tkE _ h0, own_tkE _ h1]
  rcases own_tok01 v0 with q0 | q0 <;> rcases own_tok01 v1 with q1 | q1 <;> first | (simp [q0, q1]; done) | (simp only [q0, q1]; decide) | (simp only [q0, q1]; rfl)
theorem own_law3 (v0 v1 v2 j : Int32) (h0 : 0 ≤ v0.toInt ∧ v0.toInt < 65536) (h1 : 0 ≤ v1.toInt ∧ v1.toInt < 65536) (h2 : 0 ≤ v2.toInt ∧ v2.toInt < 65536) (ej : j = (if (own_tok v0) = (0 : Int32) then (0 : Int32) else (if (own_tok v1) = (0 : Int32) then (0 : Int32) else (if (own_tok v2) = (0 : Int32) then (0 : Int32) else (1 : Int32))))) : own_res (updI (updI (updI (fun _ => (0 : Int32)) 0 (nar .char v0)) 1 (nar .char v1)) 2 (nar .char v2)) 0 3 = j := by
  rw [ej]
  have e : own_res (updI (updI (updI (fun _ => (0 : Int32)) 0 (nar .char v0)) 1 (nar .char v1)) 2 (nar .char v2)) 0 3 = (if own_tk (nar .char v0) = (1 : Int32) then (if own_tk (nar .char v1) = (1 : Int32) then (if own_tk (nar .char v2) = (1 : Int32) then (1 : Int32) else (0 : Int32)) else (0 : Int32)) else (0 : Int32)) := by first | rfl | simp [own_res, updI]
  rw [e, own_nce _ h0, own_nce _ h1, own_nce _ h2, own_tkE _ h0, own_tkE _ h1, own_tkE _ h2]
  rcases own_tok01 v0 with q0 | q0 <;> rcases own_tok01 v1 with q1 | q1 <;> rcases own_tok01 v2 with q2 | q2 <;> first | (simp [q0, q1, q2]; done) | (simp only [q0, q1, q2]; decide) | (simp only [q0, q1, q2]; rfl)
theorem own_law4 (v0 v1 v2 v3 j : Int32) (h0 : 0 ≤ v0.toInt ∧ v0.toInt < 65536) (h1 : 0 ≤ v1.toInt ∧ v1.toInt < 65536) (h2 : 0 ≤ v2.toInt ∧ v2.toInt < 65536) (h3 : 0 ≤ v3.toInt ∧ v3.toInt < 65536) (ej : j = (if (own_tok v0) = (0 : Int32) then (0 : Int32) else (if (own_tok v1) = (0 : Int32) then (0 : Int32) else (if (own_tok v2) = (0 : Int32) then (0 : Int32) else (if (own_tok v3) = (0 : Int32) then (0 : Int32) else (1 : Int32)))))) : own_res (updI (updI (updI (updI (fun _ => (0 : Int32)) 0 (nar .char v0)) 1 (nar .char v1)) 2 (nar .char v2)) 3 (nar .char v3)) 0 4 = j := by
  rw [ej]
  have e : own_res (updI (updI (updI (updI (fun _ => (0 : Int32)) 0 (nar .char v0)) 1 (nar .char v1)) 2 (nar .char v2)) 3 (nar .char v3)) 0 4 = (if own_tk (nar .char v0) = (1 : Int32) then (if own_tk (nar .char v1) = (1 : Int32) then (if own_tk (nar .char v2) = (1 : Int32) then (if own_tk (nar .char v3) = (1 : Int32) then (1 : Int32) else (0 : Int32)) else (0 : Int32)) else (0 : Int32)) else (0 : Int32)) := by first | rfl | simp [own_res, updI]
  rw [e, own_nce _ h0, own_nce _ h1, own_nce _ h2, own_nce _ h3, own_tkE _ h0, own_tkE _ h1, own_tkE _ h2, own_tkE _ h3]
  rcases own_tok01 v0 with q0 | q0 <;> rcases own_tok01 v1 with q1 | q1 <;> rcases own_tok01 v2 with q2 | q2 <;> rcases own_tok01 v3 with q3 | q3 <;> first | (simp [q0, q1, q2, q3]; done) | (simp only [q0, q1, q2, q3]; decide) | (simp only [q0, q1, q2, q3]; rfl)
set_option maxRecDepth 65536 in
set_option maxHeartbeats 40000000 in
theorem rm0 (l : Launch) (Z : State) (a0 : Array Value) (hw : ∀ d ∈ tables_1, d.before a0 Z = true) (p1 : Int32) (p2 : Int32) (p3 : Int32) (p4 : Int32) (p5 : Int32) (u_COMPACT_STRINGS : Int32) (u_SIOOBE_FORMATTER : Value) (h0 : Heap) (n0 : Nat) (Zs : n0 ≤ h0.size) (hcs : ¬ u_COMPACT_STRINGS = (0 : Int32)) (hsf : u_SIOOBE_FORMATTER.isRef = true) (S_COMPACT_STRINGS : Sta Z h0 "java/lang/String" "COMPACT_STRINGS" "Z" (.int u_COMPACT_STRINGS)) (S_SIOOBE_FORMATTER : Sta Z h0 "jdk/internal/util/Preconditions" "SIOOBE_FORMATTER" "Ljava/util/function/BiFunction;" u_SIOOBE_FORMATTER) (S__assertionsDisabled : Sta Z h0 "java/lang/StringUTF16" "$assertionsDisabled" "Z" (.int (1 : Int32))) (S_HI_BYTE_SHIFT : Sta Z h0 "java/lang/StringUTF16" "HI_BYTE_SHIFT" "I" (.int (0 : Int32))) (S_LO_BYTE_SHIFT : Sta Z h0 "java/lang/StringUTF16" "LO_BYTE_SHIFT" "I" (.int (8 : Int32))) :
    Met1H l Z own_EL x code maxLocals ret room_1 #[(.int p1), (.int p2), (.int p3), (.int p4), (.int p5)] h0 (Q0 Z p1 p2 p3 p4 p5 u_COMPACT_STRINGS u_SIOOBE_FORMATTER h0 n0) := by
  refine own_met_ofH (plainFor_of_name pn_1) (ef_0 p1 p2 p3 p4 p5) ?_
  intro p e s m below meth c s₁ vm0 X hx hby hml hZ hown hnm hret hlk eT hS hs0 H0
  have hown : (s.setVm vm0).vm.findClass "com/example/operant/operant/HeaderFieldsIsTokenPinLaw" = some m.cls := hown
  have hk : 0 ≤ h0.size := Nat.zero_le _
  have N := Fr.nil n0
  have K := Keep.refl h0 []
  refine own_iloadN X hx hby p1 at_0 rfl 1 rfl ?_
  refine own_ldc X hx hby hZ (2147483647 : Int32) hown (hw _ (List.mem_of_getElem? (i := 0) rfl)) at_1 3 rfl ?_
  refine own_iand X hx hby at_3 4 rfl ?_
  refine own_iconst X hx hby (5 : Int32) at_4 rfl 5 rfl ?_
  refine own_irem X hx hby at_5 (by decide) 6 rfl ?_
  obtain ⟨v6, e6⟩ : ∃ z : Int32, ((p1 &&& (2147483647 : Int32)) % (5 : Int32)) = z := ⟨_, rfl⟩
  refine own_istore X hx hby at_6 e6 (l' := #[.val (.int p1), .val (.int p2), .val (.int p3), .val (.int p4), .val (.int p5), .val (.int v6), .unset, .unset, .unset, .unset, .unset, .unset]) rfl 8 rfl ?_
  rcases (own_five _ _ e6 : v6 = (0 : Int32) ∨ v6 = (1 : Int32) ∨ v6 = (2 : Int32) ∨ v6 = (3 : Int32) ∨ v6 = (4 : Int32)) with rfl | rfl | rfl | rfl | rfl
  · skip
    refine own_iloadN X hx hby p2 at_8 rfl 9 rfl ?_
    refine own_callS X hx hby hZ (st := []) [(.int p2)] rfl hown (hw _ (List.mem_of_getElem? (i := 1) rfl)) (hw _ (List.mem_of_getElem? (i := 2) rfl)) (hw _ (List.mem_of_getElem? (i := 3) rfl)) (hw _ (List.mem_of_getElem? (i := 4) rfl)) (by decide) at_9 (rm1 l Z a0 hw p2 h0 n0 Zs ) eT pd_5 rfl (by rw [hml]; rfl) (by decide) 0 rfl (by decide) (by decide) (by decide) 12 rfl ?_
    intro T9 L9 v9 X hQ
    obtain ⟨rfl, N9, eT⟩ := hQ
    have N := Fr.app N N9
    show Go p e below _ T9 (mkF m 12 #[.val (.int p1), .val (.int p2), .val (.int p3), .val (.int p4), .val (.int p5), .val (.int (0 : Int32)), .unset, .unset, .unset, .unset, .unset, .unset] [(.int (f1 p2))])
    obtain ⟨v12, e12⟩ : ∃ z : Int32, (f1 p2) = z := ⟨_, rfl⟩
    refine own_istore X hx hby at_12 e12 (l' := #[.val (.int p1), .val (.int p2), .val (.int p3), .val (.int p4), .val (.int p5), .val (.int (0 : Int32)), .val (.int v12), .unset, .unset, .unset, .unset, .unset]) rfl 14 rfl ?_
    refine own_iloadN X hx hby p3 at_14 rfl 15 rfl ?_
    refine own_callS X hx hby hZ (st := []) [(.int p3)] rfl hown (hw _ (List.mem_of_getElem? (i := 1) rfl)) (hw _ (List.mem_of_getElem? (i := 2) rfl)) (hw _ (List.mem_of_getElem? (i := 3) rfl)) (hw _ (List.mem_of_getElem? (i := 4) rfl)) (by decide) at_15 (rm1 l Z a0 hw p3 h0 n0 Zs ) eT pd_5 rfl (by rw [hml]; rfl) (by decide) 0 rfl (by decide) (by decide) (by decide) 18 rfl ?_
    intro T15 L9 v9 X hQ
    obtain ⟨rfl, N9, eT⟩ := hQ
    have N := Fr.app N N9
    show Go p e below _ T15 (mkF m 18 #[.val (.int p1), .val (.int p2), .val (.int p3), .val (.int p4), .val (.int p5), .val (.int (0 : Int32)), .val (.int v12), .unset, .unset, .unset, .unset, .unset] [(.int (f1 p3))])
    obtain ⟨v18, e18⟩ : ∃ z : Int32, (f1 p3) = z := ⟨_, rfl⟩
    refine own_istore X hx hby at_18 e18 (l' := #[.val (.int p1), .val (.int p2), .val (.int p3), .val (.int p4), .val (.int p5), .val (.int (0 : Int32)), .val (.int v12), .val (.int v18), .unset, .unset, .unset, .unset]) rfl 20 rfl ?_
    refine own_iloadN X hx hby p4 at_20 rfl 21 rfl ?_
    refine own_callS X hx hby hZ (st := []) [(.int p4)] rfl hown (hw _ (List.mem_of_getElem? (i := 1) rfl)) (hw _ (List.mem_of_getElem? (i := 2) rfl)) (hw _ (List.mem_of_getElem? (i := 3) rfl)) (hw _ (List.mem_of_getElem? (i := 4) rfl)) (by decide) at_21 (rm1 l Z a0 hw p4 h0 n0 Zs ) eT pd_5 rfl (by rw [hml]; rfl) (by decide) 0 rfl (by decide) (by decide) (by decide) 24 rfl ?_
    intro T21 L9 v9 X hQ
    obtain ⟨rfl, N9, eT⟩ := hQ
    have N := Fr.app N N9
    show Go p e below _ T21 (mkF m 24 #[.val (.int p1), .val (.int p2), .val (.int p3), .val (.int p4), .val (.int p5), .val (.int (0 : Int32)), .val (.int v12), .val (.int v18), .unset, .unset, .unset, .unset] [(.int (f1 p4))])
    obtain ⟨v24, e24⟩ : ∃ z : Int32, (f1 p4) = z := ⟨_, rfl⟩
    refine own_istore X hx hby at_24 e24 (l' := #[.val (.int p1), .val (.int p2), .val (.int p3), .val (.int p4), .val (.int p5), .val (.int (0 : Int32)), .val (.int v12), .val (.int v18), .val (.int v24), .unset, .unset, .unset]) rfl 26 rfl ?_
    refine own_iload X hx hby p5 at_26 rfl 28 rfl ?_
    refine own_callS X hx hby hZ (st := []) [(.int p5)] rfl hown (hw _ (List.mem_of_getElem? (i := 1) rfl)) (hw _ (List.mem_of_getElem? (i := 2) rfl)) (hw _ (List.mem_of_getElem? (i := 3) rfl)) (hw _ (List.mem_of_getElem? (i := 4) rfl)) (by decide) at_28 (rm1 l Z a0 hw p5 h0 n0 Zs ) eT pd_5 rfl (by rw [hml]; rfl) (by decide) 0 rfl (by decide) (by decide) (by decide) 31 rfl ?_
    intro T28 L9 v9 X hQ
    obtain ⟨rfl, N9, eT⟩ := hQ
    have N := Fr.app N N9
    show Go p e below _ T28 (mkF m 31 #[.val (.int p1), .val (.int p2), .val (.int p3), .val (.int p4), .val (.int p5), .val (.int (0 : Int32)), .val (.int v12), .val (.int v18), .val (.int v24), .unset, .unset, .unset] [(.int (f1 p5))])
    obtain ⟨v31, e31⟩ : ∃ z : Int32, (f1 p5) = z := ⟨_, rfl⟩
    refine own_istore X hx hby at_31 e31 (l' := #[.val (.int p1), .val (.int p2), .val (.int p3), .val (.int p4), .val (.int p5), .val (.int (0 : Int32)), .val (.int v12), .val (.int v18), .val (.int v24), .val (.int v31), .unset, .unset]) rfl 33 rfl ?_
    refine own_iload X hx hby (0 : Int32) at_33 rfl 35 rfl ?_
    have c35 : (0 : Int32) = (0 : Int32) := by decide
    refine own_if_ne X hx hby at_35 53 38 (by decide) rfl (fun q => absurd c35 q) (fun _ => ?_)
    refine own_new X hx hby hZ hown (hw _ (List.mem_of_getElem? (i := 6) rfl)) (hw _ (List.mem_of_getElem? (i := 7) rfl)) (hw _ (List.mem_of_getElem? (i := 8) rfl)) eT at_38 (by decide) (by decide) 41 rfl ?_
    intro T38 h38 b38 gb38 X eT Ex A D
    have g_b38 : n0 ≤ b38 := by rw [gb38]; exact Zs
    have sz_b38 : h0.size ≤ b38 := by rw [gb38]; exact K.1
    have hk := Nat.le_trans hk Ex.1
    have E_b38 := A
    have F_value_b38 : Fld Z h38 b38 "java/lang/String" "value" "[B" .null := D (Or.inr (hw _ (List.mem_of_getElem? (i := 22) rfl))) (ty := (.array .byte)) (by decide)
    have F_coder_b38 : Fld Z h38 b38 "java/lang/String" "coder" "B" (.int (0 : Int32)) := D (Or.inr (hw _ (List.mem_of_getElem? (i := 23) rfl))) (ty := .byte) (by decide)
    have K := K.ext Ex
    have Zs := Nat.le_trans Zs Ex.1
    refine own_dup X hx hby at_41 rfl 42 rfl ?_
    refine own_iconst X hx hby (0 : Int32) at_42 rfl 43 rfl ?_
    refine own_newarray X hx hby hZ (hw _ (List.mem_of_getElem? (i := 9) rfl)) eT at_43 (z := (0 : Int32)) (by decide) (n := 0) rfl (cap := 0) (by decide) (by decide) (by decide) (by decide) (ad := "[C") rfl 45 rfl ?_
    intro T43 h43 b43 gb43 X eT Ex A A2
    have g_b43 : n0 ≤ b43 := by rw [gb43]; exact Zs
    have sz_b43 : h0.size ≤ b43 := by rw [gb43]; exact K.1
    have ne_b38_b43 : b38 ≠ b43 := Nat.ne_of_lt (by rw [gb43]; exact E_b38.lt)
    have hk := Nat.le_trans hk Ex.1
    have E_b38 := E_b38.ext Ex
    have F_value_b38 := F_value_b38.ext Ex
    have F_coder_b38 := F_coder_b38.ext Ex
    have A_b43 : Afi Z h43 b43 .char 0 (fun _ => (0 : Int32)) := A
    have E_b43 := A2
    have K := K.ext Ex
    have Zs := Nat.le_trans Zs Ex.1
    have Rr := CHr.ext (own_ext0 K) H0
    refine own_callCH X hx hby hZ (st := [(.ref b38)]) [(.ref b43)] rfl rfl hown hS hk (own_hEL hw) Rr (hw _ (List.mem_of_getElem? (i := 10) rfl)) (hw _ (List.mem_of_getElem? (i := 11) rfl)) (hw _ (List.mem_of_getElem? (i := 8) rfl)) (hw _ (List.mem_of_getElem? (i := 12) rfl)) (by decide) at_45 (rm2_0 l Z a0 hw b38 b43 (fun _ => (0 : Int32)) (0 : Int32) h43 n0 Zs A_b43 E_b43 E_b38 F_value_b38 F_coder_b38 g_b38) eT pd_19 rfl (by rw [hml]; rfl) (by decide) 1 rfl (by decide) (by decide) (by decide) 48 rfl ?_
    intro T45 L9 v9 vm45 X hS hZ hown Rr hQ
    obtain ⟨h45, eT⟩ : ∃ z, T45.heap = z := ⟨_, rfl⟩
    rw [eT] at hQ Rr
    have lt_b38 := E_b38.lt
    have lt_b43 := A_b43.lt
    obtain ⟨b45r, b45gg, rfl, N9, Kc, E_b38, F_value_b38, A_b45r⟩ := hQ
    have A_b43 := A_b43.keep Kc (ninS (Ne.symm ne_b38_b43) nin0)
    have E_b43 := E_b43.keep Kc
    have hk : T45.heap.size ≤ h45.size := by rw [eT]; exact Nat.le_refl _
    have K := K.trans Kc (allS (Or.inr sz_b38) all0)
    have Zs := Nat.le_trans Zs Kc.1
    have N := Fr.app N N9
    show Go p e below _ T45 (mkF m 48 #[.val (.int p1), .val (.int p2), .val (.int p3), .val (.int p4), .val (.int p5), .val (.int (0 : Int32)), .val (.int v12), .val (.int v18), .val (.int v24), .val (.int v31), .unset, .unset] [(.ref b38)])
    refine own_astore X hx hby at_48 rfl (l' := #[.val (.int p1), .val (.int p2), .val (.int p3), .val (.int p4), .val (.int p5), .val (.int (0 : Int32)), .val (.int v12), .val (.int v18), .val (.int v24), .val (.int v31), .val (.ref b38), .unset]) rfl 50 rfl ?_
    refine own_goto X hx hby at_50 178 (by decide) ?_
    refine own_iload X hx hby (0 : Int32) at_178 rfl 180 rfl ?_
    have c180 : ¬ (0 : Int32) < (0 : Int32) := by decide
    refine own_if_le X hx hby at_180 237 183 (by decide) rfl (fun _ => ?_) (fun q => absurd q c180)
    refine own_iconst X hx hby (0 : Int32) at_237 rfl 238 rfl ?_
    refine own_istore X hx hby at_238 rfl (l' := #[.val (.int p1), .val (.int p2), .val (.int p3), .val (.int p4), .val (.int p5), .val (.int (0 : Int32)), .val (.int v12), .val (.int v18), .val (.int v24), .val (.int v31), .val (.ref b38), .val (.int (0 : Int32))]) rfl 240 rfl ?_
    refine own_aload X hx hby (.ref b38) at_240 rfl rfl 242 rfl ?_
    refine own_callS X hx hby hZ (st := []) [(.ref b38)] rfl hown (hw _ (List.mem_of_getElem? (i := 28) rfl)) (hw _ (List.mem_of_getElem? (i := 29) rfl)) (hw _ (List.mem_of_getElem? (i := 30) rfl)) (hw _ (List.mem_of_getElem? (i := 31) rfl)) (by decide) at_242 (rm5_0 l Z a0 hw b38 b45r b45gg h45 n0 Zs A_b45r F_value_b38 E_b38) eT pd_13 rfl (by rw [hml]; rfl) (by decide) 0 rfl (by decide) (by decide) (by decide) 245 rfl ?_
    intro T242 L9 v9 X hQ
    obtain ⟨rfl, N9, eT⟩ := hQ
    have N := Fr.app N N9
    show Go p e below _ T242 (mkF m 245 #[.val (.int p1), .val (.int p2), .val (.int p3), .val (.int p4), .val (.int p5), .val (.int (0 : Int32)), .val (.int v12), .val (.int v18), .val (.int v24), .val (.int v31), .val (.ref b38), .val (.int (0 : Int32))] [(.int (0 : Int32))])
    refine own_iload X hx hby (0 : Int32) at_245 rfl 247 rfl ?_
    have c247 : (0 : Int32) = (0 : Int32) := rfl
    refine own_icmp_ne X hx hby at_247 254 250 (by decide) rfl (fun q => absurd c247 q) (fun _ => ?_)
    refine own_iconst X hx hby (1 : Int32) at_250 rfl 251 rfl ?_
    refine own_goto X hx hby at_251 255 (by decide) ?_
    refine own_retNH X hx hby hZ hS (Nat.le_trans hk (Nat.le_of_eq (by rw [eT]))) eT (own_hEL hw) Rr hret hlk (t := .boolean) (z' := (1 : Int32)) (by simp) at_255 (by decide) (by decide) rfl ?_
    rw [eT]
    exact ⟨rfl, N⟩
  · skip
    refine own_iloadN X hx hby p2 at_8 rfl 9 rfl ?_
    refine own_callS X hx hby hZ (st := []) [(.int p2)] rfl hown (hw _ (List.mem_of_getElem? (i := 1) rfl)) (hw _ (List.mem_of_getElem? (i := 2) rfl)) (hw _ (List.mem_of_getElem? (i := 3) rfl)) (hw _ (List.mem_of_getElem? (i := 4) rfl)) (by decide) at_9 (rm1 l Z a0 hw p2 h0 n0 Zs ) eT pd_5 rfl (by rw [hml]; rfl) (by decide) 0 rfl (by decide) (by decide) (by decide) 12 rfl ?_
    intro T9 L9 v9 X hQ
    obtain ⟨rfl, N9, eT⟩ := hQ
    have N := Fr.app N N9
    show Go p e below _ T9 (mkF m 12 #[.val (.int p1), .val (.int p2), .val (.int p3), .val (.int p4), .val (.int p5), .val (.int (1 : Int32)), .unset, .unset, .unset, .unset, .unset, .unset] [(.int (f1 p2))])
    obtain ⟨v12, e12⟩ : ∃ z : Int32, (f1 p2) = z := ⟨_, rfl⟩
    refine own_istore X hx hby at_12 e12 (l' := #[.val (.int p1), .val (.int p2), .val (.int p3), .val (.int p4), .val (.int p5), .val (.int (1 : Int32)), .val (.int v12), .unset, .unset, .unset, .unset, .unset]) rfl 14 rfl ?_
    refine own_iloadN X hx hby p3 at_14 rfl 15 rfl ?_
    refine own_callS X hx hby hZ (st := []) [(.int p3)] rfl hown (hw _ (List.mem_of_getElem? (i := 1) rfl)) (hw _ (List.mem_of_getElem? (i := 2) rfl)) (hw _ (List.mem_of_getElem? (i := 3) rfl)) (hw _ (List.mem_of_getElem? (i := 4) rfl)) (by decide) at_15 (rm1 l Z a0 hw p3 h0 n0 Zs ) eT pd_5 rfl (by rw [hml]; rfl) (by decide) 0 rfl (by decide) (by decide) (by decide) 18 rfl ?_
    intro T15 L9 v9 X hQ
    obtain ⟨rfl, N9, eT⟩ := hQ
    have N := Fr.app N N9
    show Go p e below _ T15 (mkF m 18 #[.val (.int p1), .val (.int p2), .val (.int p3), .val (.int p4), .val (.int p5), .val (.int (1 : Int32)), .val (.int v12), .unset, .unset, .unset, .unset, .unset] [(.int (f1 p3))])
    obtain ⟨v18, e18⟩ : ∃ z : Int32, (f1 p3) = z := ⟨_, rfl⟩
    refine own_istore X hx hby at_18 e18 (l' := #[.val (.int p1), .val (.int p2), .val (.int p3), .val (.int p4), .val (.int p5), .val (.int (1 : Int32)), .val (.int v12), .val (.int v18), .unset, .unset, .unset, .unset]) rfl 20 rfl ?_
    refine own_iloadN X hx hby p4 at_20 rfl 21 rfl ?_
    refine own_callS X hx hby hZ (st := []) [(.int p4)] rfl hown (hw _ (List.mem_of_getElem? (i := 1) rfl)) (hw _ (List.mem_of_getElem? (i := 2) rfl)) (hw _ (List.mem_of_getElem? (i := 3) rfl)) (hw _ (List.mem_of_getElem? (i := 4) rfl)) (by decide) at_21 (rm1 l Z a0 hw p4 h0 n0 Zs ) eT pd_5 rfl (by rw [hml]; rfl) (by decide) 0 rfl (by decide) (by decide) (by decide) 24 rfl ?_
    intro T21 L9 v9 X hQ
    obtain ⟨rfl, N9, eT⟩ := hQ
    have N := Fr.app N N9
    show Go p e below _ T21 (mkF m 24 #[.val (.int p1), .val (.int p2), .val (.int p3), .val (.int p4), .val (.int p5), .val (.int (1 : Int32)), .val (.int v12), .val (.int v18), .unset, .unset, .unset, .unset] [(.int (f1 p4))])
    obtain ⟨v24, e24⟩ : ∃ z : Int32, (f1 p4) = z := ⟨_, rfl⟩
    refine own_istore X hx hby at_24 e24 (l' := #[.val (.int p1), .val (.int p2), .val (.int p3), .val (.int p4), .val (.int p5), .val (.int (1 : Int32)), .val (.int v12), .val (.int v18), .val (.int v24), .unset, .unset, .unset]) rfl 26 rfl ?_
    refine own_iload X hx hby p5 at_26 rfl 28 rfl ?_
    refine own_callS X hx hby hZ (st := []) [(.int p5)] rfl hown (hw _ (List.mem_of_getElem? (i := 1) rfl)) (hw _ (List.mem_of_getElem? (i := 2) rfl)) (hw _ (List.mem_of_getElem? (i := 3) rfl)) (hw _ (List.mem_of_getElem? (i := 4) rfl)) (by decide) at_28 (rm1 l Z a0 hw p5 h0 n0 Zs ) eT pd_5 rfl (by rw [hml]; rfl) (by decide) 0 rfl (by decide) (by decide) (by decide) 31 rfl ?_
    intro T28 L9 v9 X hQ
    obtain ⟨rfl, N9, eT⟩ := hQ
    have N := Fr.app N N9
    show Go p e below _ T28 (mkF m 31 #[.val (.int p1), .val (.int p2), .val (.int p3), .val (.int p4), .val (.int p5), .val (.int (1 : Int32)), .val (.int v12), .val (.int v18), .val (.int v24), .unset, .unset, .unset] [(.int (f1 p5))])
    obtain ⟨v31, e31⟩ : ∃ z : Int32, (f1 p5) = z := ⟨_, rfl⟩
    refine own_istore X hx hby at_31 e31 (l' := #[.val (.int p1), .val (.int p2), .val (.int p3), .val (.int p4), .val (.int p5), .val (.int (1 : Int32)), .val (.int v12), .val (.int v18), .val (.int v24), .val (.int v31), .unset, .unset]) rfl 33 rfl ?_
    refine own_iload X hx hby (1 : Int32) at_33 rfl 35 rfl ?_
    have c35 : ¬ (1 : Int32) = (0 : Int32) := by decide
    refine own_if_ne X hx hby at_35 53 38 (by decide) rfl (fun _ => ?_) (fun q => absurd q c35)
    refine own_iload X hx hby (1 : Int32) at_53 rfl 55 rfl ?_
    refine own_iconst X hx hby (1 : Int32) at_55 rfl 56 rfl ?_
    have c56 : (1 : Int32) = (1 : Int32) := by decide
    refine own_icmp_ne X hx hby at_56 79 59 (by decide) rfl (fun q => absurd c56 q) (fun _ => ?_)
    refine own_new X hx hby hZ hown (hw _ (List.mem_of_getElem? (i := 6) rfl)) (hw _ (List.mem_of_getElem? (i := 7) rfl)) (hw _ (List.mem_of_getElem? (i := 8) rfl)) eT at_59 (by decide) (by decide) 62 rfl ?_
    intro T59 h59 b59 gb59 X eT Ex A D
    have g_b59 : n0 ≤ b59 := by rw [gb59]; exact Zs
    have sz_b59 : h0.size ≤ b59 := by rw [gb59]; exact K.1
    have hk := Nat.le_trans hk Ex.1
    have E_b59 := A
    have F_value_b59 : Fld Z h59 b59 "java/lang/String" "value" "[B" .null := D (Or.inr (hw _ (List.mem_of_getElem? (i := 22) rfl))) (ty := (.array .byte)) (by decide)
    have F_coder_b59 : Fld Z h59 b59 "java/lang/String" "coder" "B" (.int (0 : Int32)) := D (Or.inr (hw _ (List.mem_of_getElem? (i := 23) rfl))) (ty := .byte) (by decide)
    have K := K.ext Ex
    have Zs := Nat.le_trans Zs Ex.1
    refine own_dup X hx hby at_62 rfl 63 rfl ?_
    refine own_iconst X hx hby (1 : Int32) at_63 rfl 64 rfl ?_
    refine own_newarray X hx hby hZ (hw _ (List.mem_of_getElem? (i := 9) rfl)) eT at_64 (z := (1 : Int32)) (by decide) (n := 1) rfl (cap := 1) (by decide) (by decide) (by decide) (by decide) (ad := "[C") rfl 66 rfl ?_
    intro T64 h64 b64 gb64 X eT Ex A A2
    have g_b64 : n0 ≤ b64 := by rw [gb64]; exact Zs
    have sz_b64 : h0.size ≤ b64 := by rw [gb64]; exact K.1
    have ne_b59_b64 : b59 ≠ b64 := Nat.ne_of_lt (by rw [gb64]; exact E_b59.lt)
    have hk := Nat.le_trans hk Ex.1
    have E_b59 := E_b59.ext Ex
    have F_value_b59 := F_value_b59.ext Ex
    have F_coder_b59 := F_coder_b59.ext Ex
    have A_b64 : Afi Z h64 b64 .char 1 (fun _ => (0 : Int32)) := A
    have E_b64 := A2
    have K := K.ext Ex
    have Zs := Nat.le_trans Zs Ex.1
    refine own_dup X hx hby at_66 rfl 67 rfl ?_
    refine own_iconst X hx hby (0 : Int32) at_67 rfl 68 rfl ?_
    refine own_iload X hx hby v12 at_68 rfl 70 rfl ?_
    refine own_castore X hx hby hZ eT A_b64 (by decide) at_70 71 rfl ?_
    intro T70 h70 X eT W A
    have hk := Nat.le_trans hk (Keep.of_wr W).1
    have E_b59 := E_b59.wr W
    have F_value_b59 := F_value_b59.other W (Or.inl ne_b59_b64)
    have F_coder_b59 := F_coder_b59.other W (Or.inl ne_b59_b64)
    have E_b64 := E_b64.wr W
    have A_b64 : Afi Z h70 b64 .char 1 (updI (fun _ => (0 : Int32)) 0 (nar .char v12)) := A
    have N := Fr.snoc X N g_b64
    have K := K.wr W (Or.inr sz_b64)
    have Zs := Nat.le_trans Zs (Keep.of_wr W).1
    refine own_callC X hx hby hZ (st := [(.ref b59)]) [(.ref b64)] rfl rfl hown (hw _ (List.mem_of_getElem? (i := 10) rfl)) (hw _ (List.mem_of_getElem? (i := 11) rfl)) (hw _ (List.mem_of_getElem? (i := 8) rfl)) (hw _ (List.mem_of_getElem? (i := 12) rfl)) (by decide) at_71 (rm2_1 l Z a0 hw b59 b64 (updI (fun _ => (0 : Int32)) 0 (nar .char v12)) .null (0 : Int32) u_COMPACT_STRINGS h70 n0 Zs hcs (own_rgU own_rg0 _ _) A_b64 E_b64 E_b59 F_value_b59 F_coder_b59 g_b59 (S_COMPACT_STRINGS.ext (own_ext0 K)) (S__assertionsDisabled.ext (own_ext0 K)) (S_HI_BYTE_SHIFT.ext (own_ext0 K)) (S_LO_BYTE_SHIFT.ext (own_ext0 K)) g_b64) eT pd_19 rfl (by rw [hml]; rfl) (by decide) 1 rfl (by decide) (by decide) (by decide) 74 rfl ?_
    intro T71 L9 v9 X hQ
    obtain ⟨h71, eT⟩ : ∃ z, T71.heap = z := ⟨_, rfl⟩
    rw [eT] at hQ
    have lt_b59 := E_b59.lt
    have lt_b64 := A_b64.lt
    obtain ⟨b71r, b71nb, b71gg, b71cd, rfl, N9, Kc, E_b59, F_value_b59, F_coder_b59, A_b71r, hstr71⟩ := hQ
    have hk := Nat.le_trans hk Kc.1
    have A_b64 := A_b64.keep Kc (ninS (Ne.symm ne_b59_b64) nin0)
    have E_b64 := E_b64.keep Kc
    have K := K.trans Kc (allS (Or.inr sz_b59) all0)
    have Zs := Nat.le_trans Zs Kc.1
    have N := Fr.app N N9
    show Go p e below _ T71 (mkF m 74 #[.val (.int p1), .val (.int p2), .val (.int p3), .val (.int p4), .val (.int p5), .val (.int (1 : Int32)), .val (.int v12), .val (.int v18), .val (.int v24), .val (.int v31), .unset, .unset] [(.ref b59)])
    refine own_astore X hx hby at_74 rfl (l' := #[.val (.int p1), .val (.int p2), .val (.int p3), .val (.int p4), .val (.int p5), .val (.int (1 : Int32)), .val (.int v12), .val (.int v18), .val (.int v24), .val (.int v31), .val (.ref b59), .unset]) rfl 76 rfl ?_
    refine own_goto X hx hby at_76 178 (by decide) ?_
    refine own_iload X hx hby (1 : Int32) at_178 rfl 180 rfl ?_
    have c180 : (0 : Int32) < (1 : Int32) := by decide
    refine own_if_le X hx hby at_180 237 183 (by decide) rfl (fun q => absurd c180 q) (fun _ => ?_)
    refine own_iload X hx hby v12 at_183 rfl 185 rfl ?_
    refine own_callS X hx hby hZ (st := []) [(.int v12)] rfl hown (hw _ (List.mem_of_getElem? (i := 48) rfl)) (hw _ (List.mem_of_getElem? (i := 49) rfl)) (hw _ (List.mem_of_getElem? (i := 3) rfl)) (hw _ (List.mem_of_getElem? (i := 50) rfl)) (by decide) at_185 (rm10 l Z a0 hw v12 h71 n0 Zs ) eT pd_4 rfl (by rw [hml]; rfl) (by decide) 0 rfl (by decide) (by decide) (by decide) 188 rfl ?_
    intro T185 L9 v9 X hQ
    obtain ⟨rfl, N9, eT⟩ := hQ
    have N := Fr.app N N9
    show Go p e below _ T185 (mkF m 188 #[.val (.int p1), .val (.int p2), .val (.int p3), .val (.int p4), .val (.int p5), .val (.int (1 : Int32)), .val (.int v12), .val (.int v18), .val (.int v24), .val (.int v31), .val (.ref b59), .unset] [(.int (own_tok v12))])
    have J188 : ∀ (j188_0 : Int32), j188_0 = (if (own_tok v12) = (0 : Int32) then (0 : Int32) else (1 : Int32)) → Go p e below (FinH s Z own_EL vm0 h0 (Q0 Z p1 p2 p3 p4 p5 u_COMPACT_STRINGS u_SIOOBE_FORMATTER h0 n0) room_1.cells room_1.slots) T185 (mkF m 238 #[.val (.int p1), .val (.int p2), .val (.int p3), .val (.int p4), .val (.int p5), .val (.int (1 : Int32)), .val (.int v12), .val (.int v18), .val (.int v24), .val (.int v31), .val (.ref b59), .unset] [(.int j188_0)]) := by
      intro j188_0 ej188_0
      refine own_istore X hx hby at_238 rfl (l' := #[.val (.int p1), .val (.int p2), .val (.int p3), .val (.int p4), .val (.int p5), .val (.int (1 : Int32)), .val (.int v12), .val (.int v18), .val (.int v24), .val (.int v31), .val (.ref b59), .val (.int j188_0)]) rfl 240 rfl ?_
      refine own_aload X hx hby (.ref b59) at_240 rfl rfl 242 rfl ?_
      have Rr := CHr.ext (own_ext0 K) H0
      refine own_callSH X hx hby hZ (st := []) [(.ref b59)] rfl hown hS hk (own_hEL hw) Rr (hw _ (List.mem_of_getElem? (i := 28) rfl)) (hw _ (List.mem_of_getElem? (i := 29) rfl)) (hw _ (List.mem_of_getElem? (i := 30) rfl)) (hw _ (List.mem_of_getElem? (i := 31) rfl)) (by decide) at_242 (rm5_p l Z a0 hw b59 1 (updI (fun _ => (0 : Int32)) 0 (nar .char v12)) b71r b71gg b71nb u_COMPACT_STRINGS u_SIOOBE_FORMATTER b71cd h71 n0 Zs hcs hsf hstr71 (by decide) (by decide) A_b71r (S_COMPACT_STRINGS.ext (own_ext0 K)) (S_SIOOBE_FORMATTER.ext (own_ext0 K)) (S__assertionsDisabled.ext (own_ext0 K)) (S_HI_BYTE_SHIFT.ext (own_ext0 K)) (S_LO_BYTE_SHIFT.ext (own_ext0 K)) E_b59 F_value_b59 F_coder_b59) eT pd_13 rfl (by rw [hml]; rfl) (by decide) 0 rfl (by decide) (by decide) (by decide) 245 rfl ?_
      intro T242 L9 v9 vm242 X hS hZ hown Rr hQ
      obtain ⟨h242, eT⟩ : ∃ z, T242.heap = z := ⟨_, rfl⟩
      rw [eT] at hQ Rr
      obtain ⟨rfl, N9, Kc⟩ := hQ
      have E_b59 := E_b59.keep Kc
      have F_value_b59 := F_value_b59.keep Kc nin0
      have F_coder_b59 := F_coder_b59.keep Kc nin0
      have A_b64 := A_b64.keep Kc nin0
      have E_b64 := E_b64.keep Kc
      have A_b71r := A_b71r.keep Kc nin0
      have hk : T242.heap.size ≤ h242.size := by rw [eT]; exact Nat.le_refl _
      have K := K.trans Kc all0
      have Zs := Nat.le_trans Zs Kc.1
      have N := Fr.app N N9
      show Go p e below _ T242 (mkF m 245 #[.val (.int p1), .val (.int p2), .val (.int p3), .val (.int p4), .val (.int p5), .val (.int (1 : Int32)), .val (.int v12), .val (.int v18), .val (.int v24), .val (.int v31), .val (.ref b59), .val (.int j188_0)] [(.int (own_res (updI (fun _ => (0 : Int32)) 0 (nar .char v12)) 0 1))])
      refine own_iload X hx hby j188_0 at_245 rfl 247 rfl ?_
      have c247 : (own_res (updI (fun _ => (0 : Int32)) 0 (nar .char v12)) 0 1) = j188_0 := own_law1 _ _ (own_dr _ _ e12) ej188_0
      refine own_icmp_ne X hx hby at_247 254 250 (by decide) rfl (fun q => absurd c247 q) (fun _ => ?_)
      refine own_iconst X hx hby (1 : Int32) at_250 rfl 251 rfl ?_
      refine own_goto X hx hby at_251 255 (by decide) ?_
      refine own_retNH X hx hby hZ hS (Nat.le_trans hk (Nat.le_of_eq (by rw [eT]))) eT (own_hEL hw) Rr hret hlk (t := .boolean) (z' := (1 : Int32)) (by simp) at_255 (by decide) (by decide) rfl ?_
      rw [eT]
      exact ⟨rfl, N⟩
    refine own_if_eq X hx hby at_188 237 191 (by decide) rfl (fun c188 => ?_) (fun c188 => ?_)
    · skip
      refine own_iconst X hx hby (0 : Int32) at_237 rfl 238 rfl ?_
      exact J188 _ (by rw [if_pos c188])
    · skip
      refine own_iload X hx hby (1 : Int32) at_191 rfl 193 rfl ?_
      refine own_iconst X hx hby (2 : Int32) at_193 rfl 194 rfl ?_
      have c194 : (1 : Int32) < (2 : Int32) := by decide
      refine own_icmp_lt X hx hby at_194 205 197 (by decide) rfl (fun _ => ?_) (fun q => absurd c194 q)
      refine own_iload X hx hby (1 : Int32) at_205 rfl 207 rfl ?_
      refine own_iconst X hx hby (3 : Int32) at_207 rfl 208 rfl ?_
      have c208 : (1 : Int32) < (3 : Int32) := by decide
      refine own_icmp_lt X hx hby at_208 219 211 (by decide) rfl (fun _ => ?_) (fun q => absurd c208 q)
      refine own_iload X hx hby (1 : Int32) at_219 rfl 221 rfl ?_
      refine own_iconst X hx hby (4 : Int32) at_221 rfl 222 rfl ?_
      have c222 : (1 : Int32) < (4 : Int32) := by decide
      refine own_icmp_lt X hx hby at_222 233 225 (by decide) rfl (fun _ => ?_) (fun q => absurd c222 q)
      refine own_iconst X hx hby (1 : Int32) at_233 rfl 234 rfl ?_
      refine own_goto X hx hby at_234 238 (by decide) ?_
      exact J188 _ (by rw [if_neg c188])
  · skip
    refine own_iloadN X hx hby p2 at_8 rfl 9 rfl ?_
    refine own_callS X hx hby hZ (st := []) [(.int p2)] rfl hown (hw _ (List.mem_of_getElem? (i := 1) rfl)) (hw _ (List.mem_of_getElem? (i := 2) rfl)) (hw _ (List.mem_of_getElem? (i := 3) rfl)) (hw _ (List.mem_of_getElem? (i := 4) rfl)) (by decide) at_9 (rm1 l Z a0 hw p2 h0 n0 Zs ) eT pd_5 rfl (by rw [hml]; rfl) (by decide) 0 rfl (by decide) (by decide) (by decide) 12 rfl ?_
    intro T9 L9 v9 X hQ
    obtain ⟨rfl, N9, eT⟩ := hQ
    have N := Fr.app N N9
    show Go p e below _ T9 (mkF m 12 #[.val (.int p1), .val (.int p2), .val (.int p3), .val (.int p4), .val (.int p5), .val (.int (2 : Int32)), .unset, .unset, .unset, .unset, .unset, .unset] [(.int (f1 p2))])
    obtain ⟨v12, e12⟩ : ∃ z : Int32, (f1 p2) = z := ⟨_, rfl⟩
    refine own_istore X hx hby at_12 e12 (l' := #[.val (.int p1), .val (.int p2), .val (.int p3), .val (.int p4), .val (.int p5), .val (.int (2 : Int32)), .val (.int v12), .unset, .unset, .unset, .unset, .unset]) rfl 14 rfl ?_
    refine own_iloadN X hx hby p3 at_14 rfl 15 rfl ?_
    refine own_callS X hx hby hZ (st := []) [(.int p3)] rfl hown (hw _ (List.mem_of_getElem? (i := 1) rfl)) (hw _ (List.mem_of_getElem? (i := 2) rfl)) (hw _ (List.mem_of_getElem? (i := 3) rfl)) (hw _ (List.mem_of_getElem? (i := 4) rfl)) (by decide) at_15 (rm1 l Z a0 hw p3 h0 n0 Zs ) eT pd_5 rfl (by rw [hml]; rfl) (by decide) 0 rfl (by decide) (by decide) (by decide) 18 rfl ?_
    intro T15 L9 v9 X hQ
    obtain ⟨rfl, N9, eT⟩ := hQ
    have N := Fr.app N N9
    show Go p e below _ T15 (mkF m 18 #[.val (.int p1), .val (.int p2), .val (.int p3), .val (.int p4), .val (.int p5), .val (.int (2 : Int32)), .val (.int v12), .unset, .unset, .unset, .unset, .unset] [(.int (f1 p3))])
    obtain ⟨v18, e18⟩ : ∃ z : Int32, (f1 p3) = z := ⟨_, rfl⟩
    refine own_istore X hx hby at_18 e18 (l' := #[.val (.int p1), .val (.int p2), .val (.int p3), .val (.int p4), .val (.int p5), .val (.int (2 : Int32)), .val (.int v12), .val (.int v18), .unset, .unset, .unset, .unset]) rfl 20 rfl ?_
    refine own_iloadN X hx hby p4 at_20 rfl 21 rfl ?_
    refine own_callS X hx hby hZ (st := []) [(.int p4)] rfl hown (hw _ (List.mem_of_getElem? (i := 1) rfl)) (hw _ (List.mem_of_getElem? (i := 2) rfl)) (hw _ (List.mem_of_getElem? (i := 3) rfl)) (hw _ (List.mem_of_getElem? (i := 4) rfl)) (by decide) at_21 (rm1 l Z a0 hw p4 h0 n0 Zs ) eT pd_5 rfl (by rw [hml]; rfl) (by decide) 0 rfl (by decide) (by decide) (by decide) 24 rfl ?_
    intro T21 L9 v9 X hQ
    obtain ⟨rfl, N9, eT⟩ := hQ
    have N := Fr.app N N9
    show Go p e below _ T21 (mkF m 24 #[.val (.int p1), .val (.int p2), .val (.int p3), .val (.int p4), .val (.int p5), .val (.int (2 : Int32)), .val (.int v12), .val (.int v18), .unset, .unset, .unset, .unset] [(.int (f1 p4))])
    obtain ⟨v24, e24⟩ : ∃ z : Int32, (f1 p4) = z := ⟨_, rfl⟩
    refine own_istore X hx hby at_24 e24 (l' := #[.val (.int p1), .val (.int p2), .val (.int p3), .val (.int p4), .val (.int p5), .val (.int (2 : Int32)), .val (.int v12), .val (.int v18), .val (.int v24), .unset, .unset, .unset]) rfl 26 rfl ?_
    refine own_iload X hx hby p5 at_26 rfl 28 rfl ?_
    refine own_callS X hx hby hZ (st := []) [(.int p5)] rfl hown (hw _ (List.mem_of_getElem? (i := 1) rfl)) (hw _ (List.mem_of_getElem? (i := 2) rfl)) (hw _ (List.mem_of_getElem? (i := 3) rfl)) (hw _ (List.mem_of_getElem? (i := 4) rfl)) (by decide) at_28 (rm1 l Z a0 hw p5 h0 n0 Zs ) eT pd_5 rfl (by rw [hml]; rfl) (by decide) 0 rfl (by decide) (by decide) (by decide) 31 rfl ?_
    intro T28 L9 v9 X hQ
    obtain ⟨rfl, N9, eT⟩ := hQ
    have N := Fr.app N N9
    show Go p e below _ T28 (mkF m 31 #[.val (.int p1), .val (.int p2), .val (.int p3), .val (.int p4), .val (.int p5), .val (.int (2 : Int32)), .val (.int v12), .val (.int v18), .val (.int v24), .unset, .unset, .unset] [(.int (f1 p5))])
    obtain ⟨v31, e31⟩ : ∃ z : Int32, (f1 p5) = z := ⟨_, rfl⟩
    refine own_istore X hx hby at_31 e31 (l' := #[.val (.int p1), .val (.int p2), .val (.int p3), .val (.int p4), .val (.int p5), .val (.int (2 : Int32)), .val (.int v12), .val (.int v18), .val (.int v24), .val (.int v31), .unset, .unset]) rfl 33 rfl ?_
    refine own_iload X hx hby (2 : Int32) at_33 rfl 35 rfl ?_
    have c35 : ¬ (2 : Int32) = (0 : Int32) := by decide
    refine own_if_ne X hx hby at_35 53 38 (by decide) rfl (fun _ => ?_) (fun q => absurd q c35)
    refine own_iload X hx hby (2 : Int32) at_53 rfl 55 rfl ?_
    refine own_iconst X hx hby (1 : Int32) at_55 rfl 56 rfl ?_
    have c56 : ¬ (2 : Int32) = (1 : Int32) := by decide
    refine own_icmp_ne X hx hby at_56 79 59 (by decide) rfl (fun _ => ?_) (fun q => absurd q c56)
    refine own_iload X hx hby (2 : Int32) at_79 rfl 81 rfl ?_
    refine own_iconst X hx hby (2 : Int32) at_81 rfl 82 rfl ?_
    have c82 : (2 : Int32) = (2 : Int32) := by decide
    refine own_icmp_ne X hx hby at_82 110 85 (by decide) rfl (fun q => absurd c82 q) (fun _ => ?_)
    refine own_new X hx hby hZ hown (hw _ (List.mem_of_getElem? (i := 6) rfl)) (hw _ (List.mem_of_getElem? (i := 7) rfl)) (hw _ (List.mem_of_getElem? (i := 8) rfl)) eT at_85 (by decide) (by decide) 88 rfl ?_
    intro T85 h85 b85 gb85 X eT Ex A D
    have g_b85 : n0 ≤ b85 := by rw [gb85]; exact Zs
    have sz_b85 : h0.size ≤ b85 := by rw [gb85]; exact K.1
    have hk := Nat.le_trans hk Ex.1
    have E_b85 := A
    have F_value_b85 : Fld Z h85 b85 "java/lang/String" "value" "[B" .null := D (Or.inr (hw _ (List.mem_of_getElem? (i := 22) rfl))) (ty := (.array .byte)) (by decide)
    have F_coder_b85 : Fld Z h85 b85 "java/lang/String" "coder" "B" (.int (0 : Int32)) := D (Or.inr (hw _ (List.mem_of_getElem? (i := 23) rfl))) (ty := .byte) (by decide)
    have K := K.ext Ex
    have Zs := Nat.le_trans Zs Ex.1
    refine own_dup X hx hby at_88 rfl 89 rfl ?_
    refine own_iconst X hx hby (2 : Int32) at_89 rfl 90 rfl ?_
    refine own_newarray X hx hby hZ (hw _ (List.mem_of_getElem? (i := 9) rfl)) eT at_90 (z := (2 : Int32)) (by decide) (n := 2) rfl (cap := 2) (by decide) (by decide) (by decide) (by decide) (ad := "[C") rfl 92 rfl ?_
    intro T90 h90 b90 gb90 X eT Ex A A2
    have g_b90 : n0 ≤ b90 := by rw [gb90]; exact Zs
    have sz_b90 : h0.size ≤ b90 := by rw [gb90]; exact K.1
    have ne_b85_b90 : b85 ≠ b90 := Nat.ne_of_lt (by rw [gb90]; exact E_b85.lt)
    have hk := Nat.le_trans hk Ex.1
    have E_b85 := E_b85.ext Ex
    have F_value_b85 := F_value_b85.ext Ex
    have F_coder_b85 := F_coder_b85.ext Ex
    have A_b90 : Afi Z h90 b90 .char 2 (fun _ => (0 : Int32)) := A
    have E_b90 := A2
    have K := K.ext Ex
    have Zs := Nat.le_trans Zs Ex.1
    refine own_dup X hx hby at_92 rfl 93 rfl ?_
    refine own_iconst X hx hby (0 : Int32) at_93 rfl 94 rfl ?_
    refine own_iload X hx hby v12 at_94 rfl 96 rfl ?_
    refine own_castore X hx hby hZ eT A_b90 (by decide) at_96 97 rfl ?_
    intro T96 h96 X eT W A
    have hk := Nat.le_trans hk (Keep.of_wr W).1
    have E_b85 := E_b85.wr W
    have F_value_b85 := F_value_b85.other W (Or.inl ne_b85_b90)
    have F_coder_b85 := F_coder_b85.other W (Or.inl ne_b85_b90)
    have E_b90 := E_b90.wr W
    have A_b90 : Afi Z h96 b90 .char 2 (updI (fun _ => (0 : Int32)) 0 (nar .char v12)) := A
    have N := Fr.snoc X N g_b90
    have K := K.wr W (Or.inr sz_b90)
    have Zs := Nat.le_trans Zs (Keep.of_wr W).1
    refine own_dup X hx hby at_97 rfl 98 rfl ?_
    refine own_iconst X hx hby (1 : Int32) at_98 rfl 99 rfl ?_
    refine own_iload X hx hby v18 at_99 rfl 101 rfl ?_
    refine own_castore X hx hby hZ eT A_b90 (by decide) at_101 102 rfl ?_
    intro T101 h101 X eT W A
    have hk := Nat.le_trans hk (Keep.of_wr W).1
    have E_b85 := E_b85.wr W
    have F_value_b85 := F_value_b85.other W (Or.inl ne_b85_b90)
    have F_coder_b85 := F_coder_b85.other W (Or.inl ne_b85_b90)
    have E_b90 := E_b90.wr W
    have A_b90 : Afi Z h101 b90 .char 2 (updI (updI (fun _ => (0 : Int32)) 0 (nar .char v12)) 1 (nar .char v18)) := A
    have N := Fr.snoc X N g_b90
    have K := K.wr W (Or.inr sz_b90)
    have Zs := Nat.le_trans Zs (Keep.of_wr W).1
    refine own_callC X hx hby hZ (st := [(.ref b85)]) [(.ref b90)] rfl rfl hown (hw _ (List.mem_of_getElem? (i := 10) rfl)) (hw _ (List.mem_of_getElem? (i := 11) rfl)) (hw _ (List.mem_of_getElem? (i := 8) rfl)) (hw _ (List.mem_of_getElem? (i := 12) rfl)) (by decide) at_102 (rm2_2 l Z a0 hw b85 b90 (updI (updI (fun _ => (0 : Int32)) 0 (nar .char v12)) 1 (nar .char v18)) .null (0 : Int32) u_COMPACT_STRINGS h101 n0 Zs hcs (own_rgU (own_rgU own_rg0 _ _) _ _) A_b90 E_b90 E_b85 F_value_b85 F_coder_b85 g_b85 (S_COMPACT_STRINGS.ext (own_ext0 K)) (S__assertionsDisabled.ext (own_ext0 K)) (S_HI_BYTE_SHIFT.ext (own_ext0 K)) (S_LO_BYTE_SHIFT.ext (own_ext0 K)) g_b90) eT pd_19 rfl (by rw [hml]; rfl) (by decide) 1 rfl (by decide) (by decide) (by decide) 105 rfl ?_
    intro T102 L9 v9 X hQ
    obtain ⟨h102, eT⟩ : ∃ z, T102.heap = z := ⟨_, rfl⟩
    rw [eT] at hQ
    have lt_b85 := E_b85.lt
    have lt_b90 := A_b90.lt
    obtain ⟨b102r, b102nb, b102gg, b102cd, rfl, N9, Kc, E_b85, F_value_b85, F_coder_b85, A_b102r, hstr102⟩ := hQ
    have hk := Nat.le_trans hk Kc.1
    have A_b90 := A_b90.keep Kc (ninS (Ne.symm ne_b85_b90) nin0)
    have E_b90 := E_b90.keep Kc
    have K := K.trans Kc (allS (Or.inr sz_b85) all0)
    have Zs := Nat.le_trans Zs Kc.1
    have N := Fr.app N N9
    show Go p e below _ T102 (mkF m 105 #[.val (.int p1), .val (.int p2), .val (.int p3), .val (.int p4), .val (.int p5), .val (.int (2 : Int32)), .val (.int v12), .val (.int v18), .val (.int v24), .val (.int v31), .unset, .unset] [(.ref b85)])
    refine own_astore X hx hby at_105 rfl (l' := #[.val (.int p1), .val (.int p2), .val (.int p3), .val (.int p4), .val (.int p5), .val (.int (2 : Int32)), .val (.int v12), .val (.int v18), .val (.int v24), .val (.int v31), .val (.ref b85), .unset]) rfl 107 rfl ?_
    refine own_goto X hx hby at_107 178 (by decide) ?_
    refine own_iload X hx hby (2 : Int32) at_178 rfl 180 rfl ?_
    have c180 : (0 : Int32) < (2 : Int32) := by decide
    refine own_if_le X hx hby at_180 237 183 (by decide) rfl (fun q => absurd c180 q) (fun _ => ?_)
    refine own_iload X hx hby v12 at_183 rfl 185 rfl ?_
    refine own_callS X hx hby hZ (st := []) [(.int v12)] rfl hown (hw _ (List.mem_of_getElem? (i := 48) rfl)) (hw _ (List.mem_of_getElem? (i := 49) rfl)) (hw _ (List.mem_of_getElem? (i := 3) rfl)) (hw _ (List.mem_of_getElem? (i := 50) rfl)) (by decide) at_185 (rm10 l Z a0 hw v12 h102 n0 Zs ) eT pd_4 rfl (by rw [hml]; rfl) (by decide) 0 rfl (by decide) (by decide) (by decide) 188 rfl ?_
    intro T185 L9 v9 X hQ
    obtain ⟨rfl, N9, eT⟩ := hQ
    have N := Fr.app N N9
    show Go p e below _ T185 (mkF m 188 #[.val (.int p1), .val (.int p2), .val (.int p3), .val (.int p4), .val (.int p5), .val (.int (2 : Int32)), .val (.int v12), .val (.int v18), .val (.int v24), .val (.int v31), .val (.ref b85), .unset] [(.int (own_tok v12))])
    have J188 : ∀ (TJ188 : State) (LJ : List Loc), Stand p l e room_1 (s.setVm vm0) m #[(.int p1), (.int p2), (.int p3), (.int p4), (.int p5)] below meth c TJ188 LJ 4 12 → TJ188.heap = h102 → Fr n0 LJ → ∀ (j188_0 : Int32), j188_0 = (if (own_tok v12) = (0 : Int32) then (0 : Int32) else (if (own_tok v18) = (0 : Int32) then (0 : Int32) else (1 : Int32))) → Go p e below (FinH s Z own_EL vm0 h0 (Q0 Z p1 p2 p3 p4 p5 u_COMPACT_STRINGS u_SIOOBE_FORMATTER h0 n0) room_1.cells room_1.slots) TJ188 (mkF m 238 #[.val (.int p1), .val (.int p2), .val (.int p3), .val (.int p4), .val (.int p5), .val (.int (2 : Int32)), .val (.int v12), .val (.int v18), .val (.int v24), .val (.int v31), .val (.ref b85), .unset] [(.int j188_0)]) := by
      intro TJ188 LJ X eT N
      intro j188_0 ej188_0
      refine own_istore X hx hby at_238 rfl (l' := #[.val (.int p1), .val (.int p2), .val (.int p3), .val (.int p4), .val (.int p5), .val (.int (2 : Int32)), .val (.int v12), .val (.int v18), .val (.int v24), .val (.int v31), .val (.ref b85), .val (.int j188_0)]) rfl 240 rfl ?_
      refine own_aload X hx hby (.ref b85) at_240 rfl rfl 242 rfl ?_
      have Rr := CHr.ext (own_ext0 K) H0
      refine own_callSH X hx hby hZ (st := []) [(.ref b85)] rfl hown hS hk (own_hEL hw) Rr (hw _ (List.mem_of_getElem? (i := 28) rfl)) (hw _ (List.mem_of_getElem? (i := 29) rfl)) (hw _ (List.mem_of_getElem? (i := 30) rfl)) (hw _ (List.mem_of_getElem? (i := 31) rfl)) (by decide) at_242 (rm5_p l Z a0 hw b85 2 (updI (updI (fun _ => (0 : Int32)) 0 (nar .char v12)) 1 (nar .char v18)) b102r b102gg b102nb u_COMPACT_STRINGS u_SIOOBE_FORMATTER b102cd h102 n0 Zs hcs hsf hstr102 (by decide) (by decide) A_b102r (S_COMPACT_STRINGS.ext (own_ext0 K)) (S_SIOOBE_FORMATTER.ext (own_ext0 K)) (S__assertionsDisabled.ext (own_ext0 K)) (S_HI_BYTE_SHIFT.ext (own_ext0 K)) (S_LO_BYTE_SHIFT.ext (own_ext0 K)) E_b85 F_value_b85 F_coder_b85) eT pd_13 rfl (by rw [hml]; rfl) (by decide) 0 rfl (by decide) (by decide) (by decide) 245 rfl ?_
      intro T242 L9 v9 vm242 X hS hZ hown Rr hQ
      obtain ⟨h242, eT⟩ : ∃ z, T242.heap = z := ⟨_, rfl⟩
      rw [eT] at hQ Rr
      obtain ⟨rfl, N9, Kc⟩ := hQ
      have E_b85 := E_b85.keep Kc
      have F_value_b85 := F_value_b85.keep Kc nin0
      have F_coder_b85 := F_coder_b85.keep Kc nin0
      have A_b90 := A_b90.keep Kc nin0
      have E_b90 := E_b90.keep Kc
      have A_b102r := A_b102r.keep Kc nin0
      have hk : T242.heap.size ≤ h242.size := by rw [eT]; exact Nat.le_refl _
      have K := K.trans Kc all0
      have Zs := Nat.le_trans Zs Kc.1
      have N := Fr.app N N9
      show Go p e below _ T242 (mkF m 245 #[.val (.int p1), .val (.int p2), .val (.int p3), .val (.int p4), .val (.int p5), .val (.int (2 : Int32)), .val (.int v12), .val (.int v18), .val (.int v24), .val (.int v31), .val (.ref b85), .val (.int j188_0)] [(.int (own_res (updI (updI (fun _ => (0 : Int32)) 0 (nar .char v12)) 1 (nar .char v18)) 0 2))])
      refine own_iload X hx hby j188_0 at_245 rfl 247 rfl ?_
      have c247 : (own_res (updI (updI (fun _ => (0 : Int32)) 0 (nar .char v12)) 1 (nar .char v18)) 0 2) = j188_0 := own_law2 _ _ _ (own_dr _ _ e12) (own_dr _ _ e18) ej188_0
      refine own_icmp_ne X hx hby at_247 254 250 (by decide) rfl (fun q => absurd c247 q) (fun _ => ?_)
      refine own_iconst X hx hby (1 : Int32) at_250 rfl 251 rfl ?_
      refine own_goto X hx hby at_251 255 (by decide) ?_
      refine own_retNH X hx hby hZ hS (Nat.le_trans hk (Nat.le_of_eq (by rw [eT]))) eT (own_hEL hw) Rr hret hlk (t := .boolean) (z' := (1 : Int32)) (by simp) at_255 (by decide) (by decide) rfl ?_
      rw [eT]
      exact ⟨rfl, N⟩
    refine own_if_eq X hx hby at_188 237 191 (by decide) rfl (fun c188 => ?_) (fun c188 => ?_)
    · skip
      refine own_iconst X hx hby (0 : Int32) at_237 rfl 238 rfl ?_
      exact J188 _ _ X eT N _ (by rw [if_pos c188])
    · skip
      refine own_iload X hx hby (2 : Int32) at_191 rfl 193 rfl ?_
      refine own_iconst X hx hby (2 : Int32) at_193 rfl 194 rfl ?_
      have c194 : ¬ (2 : Int32) < (2 : Int32) := by decide
      refine own_icmp_lt X hx hby at_194 205 197 (by decide) rfl (fun q => absurd q c194) (fun _ => ?_)
      refine own_iload X hx hby v18 at_197 rfl 199 rfl ?_
      refine own_callS X hx hby hZ (st := []) [(.int v18)] rfl hown (hw _ (List.mem_of_getElem? (i := 48) rfl)) (hw _ (List.mem_of_getElem? (i := 49) rfl)) (hw _ (List.mem_of_getElem? (i := 3) rfl)) (hw _ (List.mem_of_getElem? (i := 50) rfl)) (by decide) at_199 (rm10 l Z a0 hw v18 h102 n0 Zs ) eT pd_4 rfl (by rw [hml]; rfl) (by decide) 0 rfl (by decide) (by decide) (by decide) 202 rfl ?_
      intro T199 L9 v9 X hQ
      obtain ⟨rfl, N9, eT⟩ := hQ
      have N := Fr.app N N9
      show Go p e below _ T199 (mkF m 202 #[.val (.int p1), .val (.int p2), .val (.int p3), .val (.int p4), .val (.int p5), .val (.int (2 : Int32)), .val (.int v12), .val (.int v18), .val (.int v24), .val (.int v31), .val (.ref b85), .unset] [(.int (own_tok v18))])
      refine own_if_eq X hx hby at_202 237 205 (by decide) rfl (fun c202 => ?_) (fun c202 => ?_)
      · skip
        refine own_iconst X hx hby (0 : Int32) at_237 rfl 238 rfl ?_
        exact J188 _ _ X eT N _ (by rw [if_neg c188, if_pos c202])
      · skip
        refine own_iload X hx hby (2 : Int32) at_205 rfl 207 rfl ?_
        refine own_iconst X hx hby (3 : Int32) at_207 rfl 208 rfl ?_
        have c208 : (2 : Int32) < (3 : Int32) := by decide
        refine own_icmp_lt X hx hby at_208 219 211 (by decide) rfl (fun _ => ?_) (fun q => absurd c208 q)
        refine own_iload X hx hby (2 : Int32) at_219 rfl 221 rfl ?_
        refine own_iconst X hx hby (4 : Int32) at_221 rfl 222 rfl ?_
        have c222 : (2 : Int32) < (4 : Int32) := by decide
        refine own_icmp_lt X hx hby at_222 233 225 (by decide) rfl (fun _ => ?_) (fun q => absurd c222 q)
        refine own_iconst X hx hby (1 : Int32) at_233 rfl 234 rfl ?_
        refine own_goto X hx hby at_234 238 (by decide) ?_
        exact J188 _ _ X eT N _ (by rw [if_neg c188, if_neg c202])
  · skip
    refine own_iloadN X hx hby p2 at_8 rfl 9 rfl ?_
    refine own_callS X hx hby hZ (st := []) [(.int p2)] rfl hown (hw _ (List.mem_of_getElem? (i := 1) rfl)) (hw _ (List.mem_of_getElem? (i := 2) rfl)) (hw _ (List.mem_of_getElem? (i := 3) rfl)) (hw _ (List.mem_of_getElem? (i := 4) rfl)) (by decide) at_9 (rm1 l Z a0 hw p2 h0 n0 Zs ) eT pd_5 rfl (by rw [hml]; rfl) (by decide) 0 rfl (by decide) (by decide) (by decide) 12 rfl ?_
    intro T9 L9 v9 X hQ
    obtain ⟨rfl, N9, eT⟩ := hQ
    have N := Fr.app N N9
    show Go p e below _ T9 (mkF m 12 #[.val (.int p1), .val (.int p2), .val (.int p3), .val (.int p4), .val (.int p5), .val (.int (3 : Int32)), .unset, .unset, .unset, .unset, .unset, .unset] [(.int (f1 p2))])
    obtain ⟨v12, e12⟩ : ∃ z : Int32, (f1 p2) = z := ⟨_, rfl⟩
    refine own_istore X hx hby at_12 e12 (l' := #[.val (.int p1), .val (.int p2), .val (.int p3), .val (.int p4), .val (.int p5), .val (.int (3 : Int32)), .val (.int v12), .unset, .unset, .unset, .unset, .unset]) rfl 14 rfl ?_
    refine own_iloadN X hx hby p3 at_14 rfl 15 rfl ?_
    refine own_callS X hx hby hZ (st := []) [(.int p3)] rfl hown (hw _ (List.mem_of_getElem? (i := 1) rfl)) (hw _ (List.mem_of_getElem? (i := 2) rfl)) (hw _ (List.mem_of_getElem? (i := 3) rfl)) (hw _ (List.mem_of_getElem? (i := 4) rfl)) (by decide) at_15 (rm1 l Z a0 hw p3 h0 n0 Zs ) eT pd_5 rfl (by rw [hml]; rfl) (by decide) 0 rfl (by decide) (by decide) (by decide) 18 rfl ?_
    intro T15 L9 v9 X hQ
    obtain ⟨rfl, N9, eT⟩ := hQ
    have N := Fr.app N N9
    show Go p e below _ T15 (mkF m 18 #[.val (.int p1), .val (.int p2), .val (.int p3), .val (.int p4), .val (.int p5), .val (.int (3 : Int32)), .val (.int v12), .unset, .unset, .unset, .unset, .unset] [(.int (f1 p3))])
    obtain ⟨v18, e18⟩ : ∃ z : Int32, (f1 p3) = z := ⟨_, rfl⟩
    refine own_istore X hx hby at_18 e18 (l' := #[.val (.int p1), .val (.int p2), .val (.int p3), .val (.int p4), .val (.int p5), .val (.int (3 : Int32)), .val (.int v12), .val (.int v18), .unset, .unset, .unset, .unset]) rfl 20 rfl ?_
    refine own_iloadN X hx hby p4 at_20 rfl 21 rfl ?_
    refine own_callS X hx hby hZ (st := []) [(.int p4)] rfl hown (hw _ (List.mem_of_getElem? (i := 1) rfl)) (hw _ (List.mem_of_getElem? (i := 2) rfl)) (hw _ (List.mem_of_getElem? (i := 3) rfl)) (hw _ (List.mem_of_getElem? (i := 4) rfl)) (by decide) at_21 (rm1 l Z a0 hw p4 h0 n0 Zs ) eT pd_5 rfl (by rw [hml]; rfl) (by decide) 0 rfl (by decide) (by decide) (by decide) 24 rfl ?_
    intro T21 L9 v9 X hQ
    obtain ⟨rfl, N9, eT⟩ := hQ
    have N := Fr.app N N9
    show Go p e below _ T21 (mkF m 24 #[.val (.int p1), .val (.int p2), .val (.int p3), .val (.int p4), .val (.int p5), .val (.int (3 : Int32)), .val (.int v12), .val (.int v18), .unset, .unset, .unset, .unset] [(.int (f1 p4))])
    obtain ⟨v24, e24⟩ : ∃ z : Int32, (f1 p4) = z := ⟨_, rfl⟩
    refine own_istore X hx hby at_24 e24 (l' := #[.val (.int p1), .val (.int p2), .val (.int p3), .val (.int p4), .val (.int p5), .val (.int (3 : Int32)), .val (.int v12), .val (.int v18), .val (.int v24), .unset, .unset, .unset]) rfl 26 rfl ?_
    refine own_iload X hx hby p5 at_26 rfl 28 rfl ?_
    refine own_callS X hx hby hZ (st := []) [(.int p5)] rfl hown (hw _ (List.mem_of_getElem? (i := 1) rfl)) (hw _ (List.mem_of_getElem? (i := 2) rfl)) (hw _ (List.mem_of_getElem? (i := 3) rfl)) (hw _ (List.mem_of_getElem? (i := 4) rfl)) (by decide) at_28 (rm1 l Z a0 hw p5 h0 n0 Zs ) eT pd_5 rfl (by rw [hml]; rfl) (by decide) 0 rfl (by decide) (by decide) (by decide) 31 rfl ?_
    intro T28 L9 v9 X hQ
    obtain ⟨rfl, N9, eT⟩ := hQ
    have N := Fr.app N N9
    show Go p e below _ T28 (mkF m 31 #[.val (.int p1), .val (.int p2), .val (.int p3), .val (.int p4), .val (.int p5), .val (.int (3 : Int32)), .val (.int v12), .val (.int v18), .val (.int v24), .unset, .unset, .unset] [(.int (f1 p5))])
    obtain ⟨v31, e31⟩ : ∃ z : Int32, (f1 p5) = z := ⟨_, rfl⟩
    refine own_istore X hx hby at_31 e31 (l' := #[.val (.int p1), .val (.int p2), .val (.int p3), .val (.int p4), .val (.int p5), .val (.int (3 : Int32)), .val (.int v12), .val (.int v18), .val (.int v24), .val (.int v31), .unset, .unset]) rfl 33 rfl ?_
    refine own_iload X hx hby (3 : Int32) at_33 rfl 35 rfl ?_
    have c35 : ¬ (3 : Int32) = (0 : Int32) := by decide
    refine own_if_ne X hx hby at_35 53 38 (by decide) rfl (fun _ => ?_) (fun q => absurd q c35)
    refine own_iload X hx hby (3 : Int32) at_53 rfl 55 rfl ?_
    refine own_iconst X hx hby (1 : Int32) at_55 rfl 56 rfl ?_
    have c56 : ¬ (3 : Int32) = (1 : Int32) := by decide
    refine own_icmp_ne X hx hby at_56 79 59 (by decide) rfl (fun _ => ?_) (fun q => absurd q c56)
    refine own_iload X hx hby (3 : Int32) at_79 rfl 81 rfl ?_
    refine own_iconst X hx hby (2 : Int32) at_81 rfl 82 rfl ?_
    have c82 : ¬ (3 : Int32) = (2 : Int32) := by decide
    refine own_icmp_ne X hx hby at_82 110 85 (by decide) rfl (fun _ => ?_) (fun q => absurd q c82)
    refine own_iload X hx hby (3 : Int32) at_110 rfl 112 rfl ?_
    refine own_iconst X hx hby (3 : Int32) at_112 rfl 113 rfl ?_
    have c113 : (3 : Int32) = (3 : Int32) := by decide
    refine own_icmp_ne X hx hby at_113 146 116 (by decide) rfl (fun q => absurd c113 q) (fun _ => ?_)
    refine own_new X hx hby hZ hown (hw _ (List.mem_of_getElem? (i := 6) rfl)) (hw _ (List.mem_of_getElem? (i := 7) rfl)) (hw _ (List.mem_of_getElem? (i := 8) rfl)) eT at_116 (by decide) (by decide) 119 rfl ?_
    intro T116 h116 b116 gb116 X eT Ex A D
    have g_b116 : n0 ≤ b116 := by rw [gb116]; exact Zs
    have sz_b116 : h0.size ≤ b116 := by rw [gb116]; exact K.1
    have hk := Nat.le_trans hk Ex.1
    have E_b116 := A
    have F_value_b116 : Fld Z h116 b116 "java/lang/String" "value" "[B" .null := D (Or.inr (hw _ (List.mem_of_getElem? (i := 22) rfl))) (ty := (.array .byte)) (by decide)
    have F_coder_b116 : Fld Z h116 b116 "java/lang/String" "coder" "B" (.int (0 : Int32)) := D (Or.inr (hw _ (List.mem_of_getElem? (i := 23) rfl))) (ty := .byte) (by decide)
    have K := K.ext Ex
    have Zs := Nat.le_trans Zs Ex.1
    refine own_dup X hx hby at_119 rfl 120 rfl ?_
    refine own_iconst X hx hby (3 : Int32) at_120 rfl 121 rfl ?_
    refine own_newarray X hx hby hZ (hw _ (List.mem_of_getElem? (i := 9) rfl)) eT at_121 (z := (3 : Int32)) (by decide) (n := 3) rfl (cap := 3) (by decide) (by decide) (by decide) (by decide) (ad := "[C") rfl 123 rfl ?_
    intro T121 h121 b121 gb121 X eT Ex A A2
    have g_b121 : n0 ≤ b121 := by rw [gb121]; exact Zs
    have sz_b121 : h0.size ≤ b121 := by rw [gb121]; exact K.1
    have ne_b116_b121 : b116 ≠ b121 := Nat.ne_of_lt (by rw [gb121]; exact E_b116.lt)
    have hk := Nat.le_trans hk Ex.1
    have E_b116 := E_b116.ext Ex
    have F_value_b116 := F_value_b116.ext Ex
    have F_coder_b116 := F_coder_b116.ext Ex
    have A_b121 : Afi Z h121 b121 .char 3 (fun _ => (0 : Int32)) := A
    have E_b121 := A2
    have K := K.ext Ex
    have Zs := Nat.le_trans Zs Ex.1
    refine own_dup X hx hby at_123 rfl 124 rfl ?_
    refine own_iconst X hx hby (0 : Int32) at_124 rfl 125 rfl ?_
    refine own_iload X hx hby v12 at_125 rfl 127 rfl ?_
    refine own_castore X hx hby hZ eT A_b121 (by decide) at_127 128 rfl ?_
    intro T127 h127 X eT W A
    have hk := Nat.le_trans hk (Keep.of_wr W).1
    have E_b116 := E_b116.wr W
    have F_value_b116 := F_value_b116.other W (Or.inl ne_b116_b121)
    have F_coder_b116 := F_coder_b116.other W (Or.inl ne_b116_b121)
    have E_b121 := E_b121.wr W
    have A_b121 : Afi Z h127 b121 .char 3 (updI (fun _ => (0 : Int32)) 0 (nar .char v12)) := A
    have N := Fr.snoc X N g_b121
    have K := K.wr W (Or.inr sz_b121)
    have Zs := Nat.le_trans Zs (Keep.of_wr W).1
    refine own_dup X hx hby at_128 rfl 129 rfl ?_
    refine own_iconst X hx hby (1 : Int32) at_129 rfl 130 rfl ?_
    refine own_iload X hx hby v18 at_130 rfl 132 rfl ?_
    refine own_castore X hx hby hZ eT A_b121 (by decide) at_132 133 rfl ?_
    intro T132 h132 X eT W A
    have hk := Nat.le_trans hk (Keep.of_wr W).1
    have E_b116 := E_b116.wr W
    have F_value_b116 := F_value_b116.other W (Or.inl ne_b116_b121)
    have F_coder_b116 := F_coder_b116.other W (Or.inl ne_b116_b121)
    have E_b121 := E_b121.wr W
    have A_b121 : Afi Z h132 b121 .char 3 (updI (updI (fun _ => (0 : Int32)) 0 (nar .char v12)) 1 (nar .char v18)) := A
    have N := Fr.snoc X N g_b121
    have K := K.wr W (Or.inr sz_b121)
    have Zs := Nat.le_trans Zs (Keep.of_wr W).1
    refine own_dup X hx hby at_133 rfl 134 rfl ?_
    refine own_iconst X hx hby (2 : Int32) at_134 rfl 135 rfl ?_
    refine own_iload X hx hby v24 at_135 rfl 137 rfl ?_
    refine own_castore X hx hby hZ eT A_b121 (by decide) at_137 138 rfl ?_
    intro T137 h137 X eT W A
    have hk := Nat.le_trans hk (Keep.of_wr W).1
    have E_b116 := E_b116.wr W
    have F_value_b116 := F_value_b116.other W (Or.inl ne_b116_b121)
    have F_coder_b116 := F_coder_b116.other W (Or.inl ne_b116_b121)
    have E_b121 := E_b121.wr W
    have A_b121 : Afi Z h137 b121 .char 3 (updI (updI (updI (fun _ => (0 : Int32)) 0 (nar .char v12)) 1 (nar .char v18)) 2 (nar .char v24)) := A
    have N := Fr.snoc X N g_b121
    have K := K.wr W (Or.inr sz_b121)
    have Zs := Nat.le_trans Zs (Keep.of_wr W).1
    refine own_callC X hx hby hZ (st := [(.ref b116)]) [(.ref b121)] rfl rfl hown (hw _ (List.mem_of_getElem? (i := 10) rfl)) (hw _ (List.mem_of_getElem? (i := 11) rfl)) (hw _ (List.mem_of_getElem? (i := 8) rfl)) (hw _ (List.mem_of_getElem? (i := 12) rfl)) (by decide) at_138 (rm2_3 l Z a0 hw b116 b121 (updI (updI (updI (fun _ => (0 : Int32)) 0 (nar .char v12)) 1 (nar .char v18)) 2 (nar .char v24)) .null (0 : Int32) u_COMPACT_STRINGS h137 n0 Zs hcs (own_rgU (own_rgU (own_rgU own_rg0 _ _) _ _) _ _) A_b121 E_b121 E_b116 F_value_b116 F_coder_b116 g_b116 (S_COMPACT_STRINGS.ext (own_ext0 K)) (S__assertionsDisabled.ext (own_ext0 K)) (S_HI_BYTE_SHIFT.ext (own_ext0 K)) (S_LO_BYTE_SHIFT.ext (own_ext0 K)) g_b121) eT pd_19 rfl (by rw [hml]; rfl) (by decide) 1 rfl (by decide) (by decide) (by decide) 141 rfl ?_
    intro T138 L9 v9 X hQ
    obtain ⟨h138, eT⟩ : ∃ z, T138.heap = z := ⟨_, rfl⟩
    rw [eT] at hQ
    have lt_b116 := E_b116.lt
    have lt_b121 := A_b121.lt
    obtain ⟨b138r, b138nb, b138gg, b138cd, rfl, N9, Kc, E_b116, F_value_b116, F_coder_b116, A_b138r, hstr138⟩ := hQ
    have hk := Nat.le_trans hk Kc.1
    have A_b121 := A_b121.keep Kc (ninS (Ne.symm ne_b116_b121) nin0)
    have E_b121 := E_b121.keep Kc
    have K := K.trans Kc (allS (Or.inr sz_b116) all0)
    have Zs := Nat.le_trans Zs Kc.1
    have N := Fr.app N N9
    show Go p e below _ T138 (mkF m 141 #[.val (.int p1), .val (.int p2), .val (.int p3), .val (.int p4), .val (.int p5), .val (.int (3 : Int32)), .val (.int v12), .val (.int v18), .val (.int v24), .val (.int v31), .unset, .unset] [(.ref b116)])
    refine own_astore X hx hby at_141 rfl (l' := #[.val (.int p1), .val (.int p2), .val (.int p3), .val (.int p4), .val (.int p5), .val (.int (3 : Int32)), .val (.int v12), .val (.int v18), .val (.int v24), .val (.int v31), .val (.ref b116), .unset]) rfl 143 rfl ?_
    refine own_goto X hx hby at_143 178 (by decide) ?_
    refine own_iload X hx hby (3 : Int32) at_178 rfl 180 rfl ?_
    have c180 : (0 : Int32) < (3 : Int32) := by decide
    refine own_if_le X hx hby at_180 237 183 (by decide) rfl (fun q => absurd c180 q) (fun _ => ?_)
    refine own_iload X hx hby v12 at_183 rfl 185 rfl ?_
    refine own_callS X hx hby hZ (st := []) [(.int v12)] rfl hown (hw _ (List.mem_of_getElem? (i := 48) rfl)) (hw _ (List.mem_of_getElem? (i := 49) rfl)) (hw _ (List.mem_of_getElem? (i := 3) rfl)) (hw _ (List.mem_of_getElem? (i := 50) rfl)) (by decide) at_185 (rm10 l Z a0 hw v12 h138 n0 Zs ) eT pd_4 rfl (by rw [hml]; rfl) (by decide) 0 rfl (by decide) (by decide) (by decide) 188 rfl ?_
    intro T185 L9 v9 X hQ
    obtain ⟨rfl, N9, eT⟩ := hQ
    have N := Fr.app N N9
    show Go p e below _ T185 (mkF m 188 #[.val (.int p1), .val (.int p2), .val (.int p3), .val (.int p4), .val (.int p5), .val (.int (3 : Int32)), .val (.int v12), .val (.int v18), .val (.int v24), .val (.int v31), .val (.ref b116), .unset] [(.int (own_tok v12))])
    have J188 : ∀ (TJ188 : State) (LJ : List Loc), Stand p l e room_1 (s.setVm vm0) m #[(.int p1), (.int p2), (.int p3), (.int p4), (.int p5)] below meth c TJ188 LJ 4 16 → TJ188.heap = h138 → Fr n0 LJ → ∀ (j188_0 : Int32), j188_0 = (if (own_tok v12) = (0 : Int32) then (0 : Int32) else (if (own_tok v18) = (0 : Int32) then (0 : Int32) else (if (own_tok v24) = (0 : Int32) then (0 : Int32) else (1 : Int32)))) → Go p e below (FinH s Z own_EL vm0 h0 (Q0 Z p1 p2 p3 p4 p5 u_COMPACT_STRINGS u_SIOOBE_FORMATTER h0 n0) room_1.cells room_1.slots) TJ188 (mkF m 238 #[.val (.int p1), .val (.int p2), .val (.int p3), .val (.int p4), .val (.int p5), .val (.int (3 : Int32)), .val (.int v12), .val (.int v18), .val (.int v24), .val (.int v31), .val (.ref b116), .unset] [(.int j188_0)]) := by
      intro TJ188 LJ X eT N
      intro j188_0 ej188_0
      refine own_istore X hx hby at_238 rfl (l' := #[.val (.int p1), .val (.int p2), .val (.int p3), .val (.int p4), .val (.int p5), .val (.int (3 : Int32)), .val (.int v12), .val (.int v18), .val (.int v24), .val (.int v31), .val (.ref b116), .val (.int j188_0)]) rfl 240 rfl ?_
      refine own_aload X hx hby (.ref b116) at_240 rfl rfl 242 rfl ?_
      have Rr := CHr.ext (own_ext0 K) H0
      refine own_callSH X hx hby hZ (st := []) [(.ref b116)] rfl hown hS hk (own_hEL hw) Rr (hw _ (List.mem_of_getElem? (i := 28) rfl)) (hw _ (List.mem_of_getElem? (i := 29) rfl)) (hw _ (List.mem_of_getElem? (i := 30) rfl)) (hw _ (List.mem_of_getElem? (i := 31) rfl)) (by decide) at_242 (rm5_p l Z a0 hw b116 3 (updI (updI (updI (fun _ => (0 : Int32)) 0 (nar .char v12)) 1 (nar .char v18)) 2 (nar .char v24)) b138r b138gg b138nb u_COMPACT_STRINGS u_SIOOBE_FORMATTER b138cd h138 n0 Zs hcs hsf hstr138 (by decide) (by decide) A_b138r (S_COMPACT_STRINGS.ext (own_ext0 K)) (S_SIOOBE_FORMATTER.ext (own_ext0 K)) (S__assertionsDisabled.ext (own_ext0 K)) (S_HI_BYTE_SHIFT.ext (own_ext0 K)) (S_LO_BYTE_SHIFT.ext (own_ext0 K)) E_b116 F_value_b116 F_coder_b116) eT pd_13 rfl (by rw [hml]; rfl) (by decide) 0 rfl (by decide) (by decide) (by decide) 245 rfl ?_
      intro T242 L9 v9 vm242 X hS hZ hown Rr hQ
      obtain ⟨h242, eT⟩ : ∃ z, T242.heap = z := ⟨_, rfl⟩
      rw [eT] at hQ Rr
      obtain ⟨rfl, N9, Kc⟩ := hQ
      have E_b116 := E_b116.keep Kc
      have F_value_b116 := F_value_b116.keep Kc nin0
      have F_coder_b116 := F_coder_b116.keep Kc nin0
      have A_b121 := A_b121.keep Kc nin0
      have E_b121 := E_b121.keep Kc
      have A_b138r := A_b138r.keep Kc nin0
      have hk : T242.heap.size ≤ h242.size := by rw [eT]; exact Nat.le_refl _
      have K := K.trans Kc all0
      have Zs := Nat.le_trans Zs Kc.1
      have N := Fr.app N N9
      show Go p e below _ T242 (mkF m 245 #[.val (.int p1), .val (.int p2), .val (.int p3), .val (.int p4), .val (.int p5), .val (.int (3 : Int32)), .val (.int v12), .val (.int v18), .val (.int v24), .val (.int v31), .val (.ref b116), .val (.int j188_0)] [(.int (own_res (updI (updI (updI (fun _ => (0 : Int32)) 0 (nar .char v12)) 1 (nar .char v18)) 2 (nar .char v24)) 0 3))])
      refine own_iload X hx hby j188_0 at_245 rfl 247 rfl ?_
      have c247 : (own_res (updI (updI (updI (fun _ => (0 : Int32)) 0 (nar .char v12)) 1 (nar .char v18)) 2 (nar .char v24)) 0 3) = j188_0 := own_law3 _ _ _ _ (own_dr _ _ e12) (own_dr _ _ e18) (own_dr _ _ e24) ej188_0
      refine own_icmp_ne X hx hby at_247 254 250 (by decide) rfl (fun q => absurd c247 q) (fun _ => ?_)
      refine own_iconst X hx hby (1 : Int32) at_250 rfl 251 rfl ?_
      refine own_goto X hx hby at_251 255 (by decide) ?_
      refine own_retNH X hx hby hZ hS (Nat.le_trans hk (Nat.le_of_eq (by rw [eT]))) eT (own_hEL hw) Rr hret hlk (t := .boolean) (z' := (1 : Int32)) (by simp) at_255 (by decide) (by decide) rfl ?_
      rw [eT]
      exact ⟨rfl, N⟩
    refine own_if_eq X hx hby at_188 237 191 (by decide) rfl (fun c188 => ?_) (fun c188 => ?_)
    · skip
      refine own_iconst X hx hby (0 : Int32) at_237 rfl 238 rfl ?_
      exact J188 _ _ X eT N _ (by rw [if_pos c188])
    · skip
      refine own_iload X hx hby (3 : Int32) at_191 rfl 193 rfl ?_
      refine own_iconst X hx hby (2 : Int32) at_193 rfl 194 rfl ?_
      have c194 : ¬ (3 : Int32) < (2 : Int32) := by decide
      refine own_icmp_lt X hx hby at_194 205 197 (by decide) rfl (fun q => absurd q c194) (fun _ => ?_)
      refine own_iload X hx hby v18 at_197 rfl 199 rfl ?_
      refine own_callS X hx hby hZ (st := []) [(.int v18)] rfl hown (hw _ (List.mem_of_getElem? (i := 48) rfl)) (hw _ (List.mem_of_getElem? (i := 49) rfl)) (hw _ (List.mem_of_getElem? (i := 3) rfl)) (hw _ (List.mem_of_getElem? (i := 50) rfl)) (by decide) at_199 (rm10 l Z a0 hw v18 h138 n0 Zs ) eT pd_4 rfl (by rw [hml]; rfl) (by decide) 0 rfl (by decide) (by decide) (by decide) 202 rfl ?_
      intro T199 L9 v9 X hQ
      obtain ⟨rfl, N9, eT⟩ := hQ
      have N := Fr.app N N9
      show Go p e below _ T199 (mkF m 202 #[.val (.int p1), .val (.int p2), .val (.int p3), .val (.int p4), .val (.int p5), .val (.int (3 : Int32)), .val (.int v12), .val (.int v18), .val (.int v24), .val (.int v31), .val (.ref b116), .unset] [(.int (own_tok v18))])
      refine own_if_eq X hx hby at_202 237 205 (by decide) rfl (fun c202 => ?_) (fun c202 => ?_)
      · skip
        refine own_iconst X hx hby (0 : Int32) at_237 rfl 238 rfl ?_
        exact J188 _ _ X eT N _ (by rw [if_neg c188, if_pos c202])
      · skip
        refine own_iload X hx hby (3 : Int32) at_205 rfl 207 rfl ?_
        refine own_iconst X hx hby (3 : Int32) at_207 rfl 208 rfl ?_
        have c208 : ¬ (3 : Int32) < (3 : Int32) := by decide
        refine own_icmp_lt X hx hby at_208 219 211 (by decide) rfl (fun q => absurd q c208) (fun _ => ?_)
        refine own_iload X hx hby v24 at_211 rfl 213 rfl ?_
        refine own_callS X hx hby hZ (st := []) [(.int v24)] rfl hown (hw _ (List.mem_of_getElem? (i := 48) rfl)) (hw _ (List.mem_of_getElem? (i := 49) rfl)) (hw _ (List.mem_of_getElem? (i := 3) rfl)) (hw _ (List.mem_of_getElem? (i := 50) rfl)) (by decide) at_213 (rm10 l Z a0 hw v24 h138 n0 Zs ) eT pd_4 rfl (by rw [hml]; rfl) (by decide) 0 rfl (by decide) (by decide) (by decide) 216 rfl ?_
        intro T213 L9 v9 X hQ
        obtain ⟨rfl, N9, eT⟩ := hQ
        have N := Fr.app N N9
        show Go p e below _ T213 (mkF m 216 #[.val (.int p1), .val (.int p2), .val (.int p3), .val (.int p4), .val (.int p5), .val (.int (3 : Int32)), .val (.int v12), .val (.int v18), .val (.int v24), .val (.int v31), .val (.ref b116), .unset] [(.int (own_tok v24))])
        refine own_if_eq X hx hby at_216 237 219 (by decide) rfl (fun c216 => ?_) (fun c216 => ?_)
        · skip
          refine own_iconst X hx hby (0 : Int32) at_237 rfl 238 rfl ?_
          exact J188 _ _ X eT N _ (by rw [if_neg c188, if_neg c202, if_pos c216])
        · skip
          refine own_iload X hx hby (3 : Int32) at_219 rfl 221 rfl ?_
          refine own_iconst X hx hby (4 : Int32) at_221 rfl 222 rfl ?_
          have c222 : (3 : Int32) < (4 : Int32) := by decide
          refine own_icmp_lt X hx hby at_222 233 225 (by decide) rfl (fun _ => ?_) (fun q => absurd c222 q)
          refine own_iconst X hx hby (1 : Int32) at_233 rfl 234 rfl ?_
          refine own_goto X hx hby at_234 238 (by decide) ?_
          exact J188 _ _ X eT N _ (by rw [if_neg c188, if_neg c202, if_neg c216])
  · skip
    refine own_iloadN X hx hby p2 at_8 rfl 9 rfl ?_
    refine own_callS X hx hby hZ (st := []) [(.int p2)] rfl hown (hw _ (List.mem_of_getElem? (i := 1) rfl)) (hw _ (List.mem_of_getElem? (i := 2) rfl)) (hw _ (List.mem_of_getElem? (i := 3) rfl)) (hw _ (List.mem_of_getElem? (i := 4) rfl)) (by decide) at_9 (rm1 l Z a0 hw p2 h0 n0 Zs ) eT pd_5 rfl (by rw [hml]; rfl) (by decide) 0 rfl (by decide) (by decide) (by decide) 12 rfl ?_
    intro T9 L9 v9 X hQ
    obtain ⟨rfl, N9, eT⟩ := hQ
    have N := Fr.app N N9
    show Go p e below _ T9 (mkF m 12 #[.val (.int p1), .val (.int p2), .val (.int p3), .val (.int p4), .val (.int p5), .val (.int (4 : Int32)), .unset, .unset, .unset, .unset, .unset, .unset] [(.int (f1 p2))])
    obtain ⟨v12, e12⟩ : ∃ z : Int32, (f1 p2) = z := ⟨_, rfl⟩
    refine own_istore X hx hby at_12 e12 (l' := #[.val (.int p1), .val (.int p2), .val (.int p3), .val (.int p4), .val (.int p5), .val (.int (4 : Int32)), .val (.int v12), .unset, .unset, .unset, .unset, .unset]) rfl 14 rfl ?_
    refine own_iloadN X hx hby p3 at_14 rfl 15 rfl ?_
    refine own_callS X hx hby hZ (st := []) [(.int p3)] rfl hown (hw _ (List.mem_of_getElem? (i := 1) rfl)) (hw _ (List.mem_of_getElem? (i := 2) rfl)) (hw _ (List.mem_of_getElem? (i := 3) rfl)) (hw _ (List.mem_of_getElem? (i := 4) rfl)) (by decide) at_15 (rm1 l Z a0 hw p3 h0 n0 Zs ) eT pd_5 rfl (by rw [hml]; rfl) (by decide) 0 rfl (by decide) (by decide) (by decide) 18 rfl ?_
    intro T15 L9 v9 X hQ
    obtain ⟨rfl, N9, eT⟩ := hQ
    have N := Fr.app N N9
    show Go p e below _ T15 (mkF m 18 #[.val (.int p1), .val (.int p2), .val (.int p3), .val (.int p4), .val (.int p5), .val (.int (4 : Int32)), .val (.int v12), .unset, .unset, .unset, .unset, .unset] [(.int (f1 p3))])
    obtain ⟨v18, e18⟩ : ∃ z : Int32, (f1 p3) = z := ⟨_, rfl⟩
    refine own_istore X hx hby at_18 e18 (l' := #[.val (.int p1), .val (.int p2), .val (.int p3), .val (.int p4), .val (.int p5), .val (.int (4 : Int32)), .val (.int v12), .val (.int v18), .unset, .unset, .unset, .unset]) rfl 20 rfl ?_
    refine own_iloadN X hx hby p4 at_20 rfl 21 rfl ?_
    refine own_callS X hx hby hZ (st := []) [(.int p4)] rfl hown (hw _ (List.mem_of_getElem? (i := 1) rfl)) (hw _ (List.mem_of_getElem? (i := 2) rfl)) (hw _ (List.mem_of_getElem? (i := 3) rfl)) (hw _ (List.mem_of_getElem? (i := 4) rfl)) (by decide) at_21 (rm1 l Z a0 hw p4 h0 n0 Zs ) eT pd_5 rfl (by rw [hml]; rfl) (by decide) 0 rfl (by decide) (by decide) (by decide) 24 rfl ?_
    intro T21 L9 v9 X hQ
    obtain ⟨rfl, N9, eT⟩ := hQ
    have N := Fr.app N N9
    show Go p e below _ T21 (mkF m 24 #[.val (.int p1), .val (.int p2), .val (.int p3), .val (.int p4), .val (.int p5), .val (.int (4 : Int32)), .val (.int v12), .val (.int v18), .unset, .unset, .unset, .unset] [(.int (f1 p4))])
    obtain ⟨v24, e24⟩ : ∃ z : Int32, (f1 p4) = z := ⟨_, rfl⟩
    refine own_istore X hx hby at_24 e24 (l' := #[.val (.int p1), .val (.int p2), .val (.int p3), .val (.int p4), .val (.int p5), .val (.int (4 : Int32)), .val (.int v12), .val (.int v18), .val (.int v24), .unset, .unset, .unset]) rfl 26 rfl ?_
    refine own_iload X hx hby p5 at_26 rfl 28 rfl ?_
    refine own_callS X hx hby hZ (st := []) [(.int p5)] rfl hown (hw _ (List.mem_of_getElem? (i := 1) rfl)) (hw _ (List.mem_of_getElem? (i := 2) rfl)) (hw _ (List.mem_of_getElem? (i := 3) rfl)) (hw _ (List.mem_of_getElem? (i := 4) rfl)) (by decide) at_28 (rm1 l Z a0 hw p5 h0 n0 Zs ) eT pd_5 rfl (by rw [hml]; rfl) (by decide) 0 rfl (by decide) (by decide) (by decide) 31 rfl ?_
    intro T28 L9 v9 X hQ
    obtain ⟨rfl, N9, eT⟩ := hQ
    have N := Fr.app N N9
    show Go p e below _ T28 (mkF m 31 #[.val (.int p1), .val (.int p2), .val (.int p3), .val (.int p4), .val (.int p5), .val (.int (4 : Int32)), .val (.int v12), .val (.int v18), .val (.int v24), .unset, .unset, .unset] [(.int (f1 p5))])
    obtain ⟨v31, e31⟩ : ∃ z : Int32, (f1 p5) = z := ⟨_, rfl⟩
    refine own_istore X hx hby at_31 e31 (l' := #[.val (.int p1), .val (.int p2), .val (.int p3), .val (.int p4), .val (.int p5), .val (.int (4 : Int32)), .val (.int v12), .val (.int v18), .val (.int v24), .val (.int v31), .unset, .unset]) rfl 33 rfl ?_
    refine own_iload X hx hby (4 : Int32) at_33 rfl 35 rfl ?_
    have c35 : ¬ (4 : Int32) = (0 : Int32) := by decide
    refine own_if_ne X hx hby at_35 53 38 (by decide) rfl (fun _ => ?_) (fun q => absurd q c35)
    refine own_iload X hx hby (4 : Int32) at_53 rfl 55 rfl ?_
    refine own_iconst X hx hby (1 : Int32) at_55 rfl 56 rfl ?_
    have c56 : ¬ (4 : Int32) = (1 : Int32) := by decide
    refine own_icmp_ne X hx hby at_56 79 59 (by decide) rfl (fun _ => ?_) (fun q => absurd q c56)
    refine own_iload X hx hby (4 : Int32) at_79 rfl 81 rfl ?_
    refine own_iconst X hx hby (2 : Int32) at_81 rfl 82 rfl ?_
    have c82 : ¬ (4 : Int32) = (2 : Int32) := by decide
    refine own_icmp_ne X hx hby at_82 110 85 (by decide) rfl (fun _ => ?_) (fun q => absurd q c82)
    refine own_iload X hx hby (4 : Int32) at_110 rfl 112 rfl ?_
    refine own_iconst X hx hby (3 : Int32) at_112 rfl 113 rfl ?_
    have c113 : ¬ (4 : Int32) = (3 : Int32) := by decide
    refine own_icmp_ne X hx hby at_113 146 116 (by decide) rfl (fun _ => ?_) (fun q => absurd q c113)
    refine own_new X hx hby hZ hown (hw _ (List.mem_of_getElem? (i := 6) rfl)) (hw _ (List.mem_of_getElem? (i := 7) rfl)) (hw _ (List.mem_of_getElem? (i := 8) rfl)) eT at_146 (by decide) (by decide) 149 rfl ?_
    intro T146 h146 b146 gb146 X eT Ex A D
    have g_b146 : n0 ≤ b146 := by rw [gb146]; exact Zs
    have sz_b146 : h0.size ≤ b146 := by rw [gb146]; exact K.1
    have hk := Nat.le_trans hk Ex.1
    have E_b146 := A
    have F_value_b146 : Fld Z h146 b146 "java/lang/String" "value" "[B" .null := D (Or.inr (hw _ (List.mem_of_getElem? (i := 22) rfl))) (ty := (.array .byte)) (by decide)
    have F_coder_b146 : Fld Z h146 b146 "java/lang/String" "coder" "B" (.int (0 : Int32)) := D (Or.inr (hw _ (List.mem_of_getElem? (i := 23) rfl))) (ty := .byte) (by decide)
    have K := K.ext Ex
    have Zs := Nat.le_trans Zs Ex.1
    refine own_dup X hx hby at_149 rfl 150 rfl ?_
    refine own_iconst X hx hby (4 : Int32) at_150 rfl 151 rfl ?_
    refine own_newarray X hx hby hZ (hw _ (List.mem_of_getElem? (i := 9) rfl)) eT at_151 (z := (4 : Int32)) (by decide) (n := 4) rfl (cap := 4) (by decide) (by decide) (by decide) (by decide) (ad := "[C") rfl 153 rfl ?_
    intro T151 h151 b151 gb151 X eT Ex A A2
    have g_b151 : n0 ≤ b151 := by rw [gb151]; exact Zs
    have sz_b151 : h0.size ≤ b151 := by rw [gb151]; exact K.1
    have ne_b146_b151 : b146 ≠ b151 := Nat.ne_of_lt (by rw [gb151]; exact E_b146.lt)
    have hk := Nat.le_trans hk Ex.1
    have E_b146 := E_b146.ext Ex
    have F_value_b146 := F_value_b146.ext Ex
    have F_coder_b146 := F_coder_b146.ext Ex
    have A_b151 : Afi Z h151 b151 .char 4 (fun _ => (0 : Int32)) := A
    have E_b151 := A2
    have K := K.ext Ex
    have Zs := Nat.le_trans Zs Ex.1
    refine own_dup X hx hby at_153 rfl 154 rfl ?_
    refine own_iconst X hx hby (0 : Int32) at_154 rfl 155 rfl ?_
    refine own_iload X hx hby v12 at_155 rfl 157 rfl ?_
    refine own_castore X hx hby hZ eT A_b151 (by decide) at_157 158 rfl ?_
    intro T157 h157 X eT W A
    have hk := Nat.le_trans hk (Keep.of_wr W).1
    have E_b146 := E_b146.wr W
    have F_value_b146 := F_value_b146.other W (Or.inl ne_b146_b151)
    have F_coder_b146 := F_coder_b146.other W (Or.inl ne_b146_b151)
    have E_b151 := E_b151.wr W
    have A_b151 : Afi Z h157 b151 .char 4 (updI (fun _ => (0 : Int32)) 0 (nar .char v12)) := A
    have N := Fr.snoc X N g_b151
    have K := K.wr W (Or.inr sz_b151)
    have Zs := Nat.le_trans Zs (Keep.of_wr W).1
    refine own_dup X hx hby at_158 rfl 159 rfl ?_
    refine own_iconst X hx hby (1 : Int32) at_159 rfl 160 rfl ?_
    refine own_iload X hx hby v18 at_160 rfl 162 rfl ?_
    refine own_castore X hx hby hZ eT A_b151 (by decide) at_162 163 rfl ?_
    intro T162 h162 X eT W A
    have hk := Nat.le_trans hk (Keep.of_wr W).1
    have E_b146 := E_b146.wr W
    have F_value_b146 := F_value_b146.other W (Or.inl ne_b146_b151)
    have F_coder_b146 := F_coder_b146.other W (Or.inl ne_b146_b151)
    have E_b151 := E_b151.wr W
    have A_b151 : Afi Z h162 b151 .char 4 (updI (updI (fun _ => (0 : Int32)) 0 (nar .char v12)) 1 (nar .char v18)) := A
    have N := Fr.snoc X N g_b151
    have K := K.wr W (Or.inr sz_b151)
    have Zs := Nat.le_trans Zs (Keep.of_wr W).1
    refine own_dup X hx hby at_163 rfl 164 rfl ?_
    refine own_iconst X hx hby (2 : Int32) at_164 rfl 165 rfl ?_
    refine own_iload X hx hby v24 at_165 rfl 167 rfl ?_
    refine own_castore X hx hby hZ eT A_b151 (by decide) at_167 168 rfl ?_
    intro T167 h167 X eT W A
    have hk := Nat.le_trans hk (Keep.of_wr W).1
    have E_b146 := E_b146.wr W
    have F_value_b146 := F_value_b146.other W (Or.inl ne_b146_b151)
    have F_coder_b146 := F_coder_b146.other W (Or.inl ne_b146_b151)
    have E_b151 := E_b151.wr W
    have A_b151 : Afi Z h167 b151 .char 4 (updI (updI (updI (fun _ => (0 : Int32)) 0 (nar .char v12)) 1 (nar .char v18)) 2 (nar .char v24)) := A
    have N := Fr.snoc X N g_b151
    have K := K.wr W (Or.inr sz_b151)
    have Zs := Nat.le_trans Zs (Keep.of_wr W).1
    refine own_dup X hx hby at_168 rfl 169 rfl ?_
    refine own_iconst X hx hby (3 : Int32) at_169 rfl 170 rfl ?_
    refine own_iload X hx hby v31 at_170 rfl 172 rfl ?_
    refine own_castore X hx hby hZ eT A_b151 (by decide) at_172 173 rfl ?_
    intro T172 h172 X eT W A
    have hk := Nat.le_trans hk (Keep.of_wr W).1
    have E_b146 := E_b146.wr W
    have F_value_b146 := F_value_b146.other W (Or.inl ne_b146_b151)
    have F_coder_b146 := F_coder_b146.other W (Or.inl ne_b146_b151)
    have E_b151 := E_b151.wr W
    have A_b151 : Afi Z h172 b151 .char 4 (updI (updI (updI (updI (fun _ => (0 : Int32)) 0 (nar .char v12)) 1 (nar .char v18)) 2 (nar .char v24)) 3 (nar .char v31)) := A
    have N := Fr.snoc X N g_b151
    have K := K.wr W (Or.inr sz_b151)
    have Zs := Nat.le_trans Zs (Keep.of_wr W).1
    refine own_callC X hx hby hZ (st := [(.ref b146)]) [(.ref b151)] rfl rfl hown (hw _ (List.mem_of_getElem? (i := 10) rfl)) (hw _ (List.mem_of_getElem? (i := 11) rfl)) (hw _ (List.mem_of_getElem? (i := 8) rfl)) (hw _ (List.mem_of_getElem? (i := 12) rfl)) (by decide) at_173 (rm2_4 l Z a0 hw b146 b151 (updI (updI (updI (updI (fun _ => (0 : Int32)) 0 (nar .char v12)) 1 (nar .char v18)) 2 (nar .char v24)) 3 (nar .char v31)) .null (0 : Int32) u_COMPACT_STRINGS h172 n0 Zs hcs (own_rgU (own_rgU (own_rgU (own_rgU own_rg0 _ _) _ _) _ _) _ _) A_b151 E_b151 E_b146 F_value_b146 F_coder_b146 g_b146 (S_COMPACT_STRINGS.ext (own_ext0 K)) (S__assertionsDisabled.ext (own_ext0 K)) (S_HI_BYTE_SHIFT.ext (own_ext0 K)) (S_LO_BYTE_SHIFT.ext (own_ext0 K)) g_b151) eT pd_19 rfl (by rw [hml]; rfl) (by decide) 1 rfl (by decide) (by decide) (by decide) 176 rfl ?_
    intro T173 L9 v9 X hQ
    obtain ⟨h173, eT⟩ : ∃ z, T173.heap = z := ⟨_, rfl⟩
    rw [eT] at hQ
    have lt_b146 := E_b146.lt
    have lt_b151 := A_b151.lt
    obtain ⟨b173r, b173nb, b173gg, b173cd, rfl, N9, Kc, E_b146, F_value_b146, F_coder_b146, A_b173r, hstr173⟩ := hQ
    have hk := Nat.le_trans hk Kc.1
    have A_b151 := A_b151.keep Kc (ninS (Ne.symm ne_b146_b151) nin0)
    have E_b151 := E_b151.keep Kc
    have K := K.trans Kc (allS (Or.inr sz_b146) all0)
    have Zs := Nat.le_trans Zs Kc.1
    have N := Fr.app N N9
    show Go p e below _ T173 (mkF m 176 #[.val (.int p1), .val (.int p2), .val (.int p3), .val (.int p4), .val (.int p5), .val (.int (4 : Int32)), .val (.int v12), .val (.int v18), .val (.int v24), .val (.int v31), .unset, .unset] [(.ref b146)])
    refine own_astore X hx hby at_176 rfl (l' := #[.val (.int p1), .val (.int p2), .val (.int p3), .val (.int p4), .val (.int p5), .val (.int (4 : Int32)), .val (.int v12), .val (.int v18), .val (.int v24), .val (.int v31), .val (.ref b146), .unset]) rfl 178 rfl ?_
    refine own_iload X hx hby (4 : Int32) at_178 rfl 180 rfl ?_
    have c180 : (0 : Int32) < (4 : Int32) := by decide
    refine own_if_le X hx hby at_180 237 183 (by decide) rfl (fun q => absurd c180 q) (fun _ => ?_)
    refine own_iload X hx hby v12 at_183 rfl 185 rfl ?_
    refine own_callS X hx hby hZ (st := []) [(.int v12)] rfl hown (hw _ (List.mem_of_getElem? (i := 48) rfl)) (hw _ (List.mem_of_getElem? (i := 49) rfl)) (hw _ (List.mem_of_getElem? (i := 3) rfl)) (hw _ (List.mem_of_getElem? (i := 50) rfl)) (by decide) at_185 (rm10 l Z a0 hw v12 h173 n0 Zs ) eT pd_4 rfl (by rw [hml]; rfl) (by decide) 0 rfl (by decide) (by decide) (by decide) 188 rfl ?_
    intro T185 L9 v9 X hQ
    obtain ⟨rfl, N9, eT⟩ := hQ
    have N := Fr.app N N9
    show Go p e below _ T185 (mkF m 188 #[.val (.int p1), .val (.int p2), .val (.int p3), .val (.int p4), .val (.int p5), .val (.int (4 : Int32)), .val (.int v12), .val (.int v18), .val (.int v24), .val (.int v31), .val (.ref b146), .unset] [(.int (own_tok v12))])
    have J188 : ∀ (TJ188 : State) (LJ : List Loc), Stand p l e room_1 (s.setVm vm0) m #[(.int p1), (.int p2), (.int p3), (.int p4), (.int p5)] below meth c TJ188 LJ 4 20 → TJ188.heap = h173 → Fr n0 LJ → ∀ (j188_0 : Int32), j188_0 = (if (own_tok v12) = (0 : Int32) then (0 : Int32) else (if (own_tok v18) = (0 : Int32) then (0 : Int32) else (if (own_tok v24) = (0 : Int32) then (0 : Int32) else (if (own_tok v31) = (0 : Int32) then (0 : Int32) else (1 : Int32))))) → Go p e below (FinH s Z own_EL vm0 h0 (Q0 Z p1 p2 p3 p4 p5 u_COMPACT_STRINGS u_SIOOBE_FORMATTER h0 n0) room_1.cells room_1.slots) TJ188 (mkF m 238 #[.val (.int p1), .val (.int p2), .val (.int p3), .val (.int p4), .val (.int p5), .val (.int (4 : Int32)), .val (.int v12), .val (.int v18), .val (.int v24), .val (.int v31), .val (.ref b146), .unset] [(.int j188_0)]) := by
      intro TJ188 LJ X eT N
      intro j188_0 ej188_0
      refine own_istore X hx hby at_238 rfl (l' := #[.val (.int p1), .val (.int p2), .val (.int p3), .val (.int p4), .val (.int p5), .val (.int (4 : Int32)), .val (.int v12), .val (.int v18), .val (.int v24), .val (.int v31), .val (.ref b146), .val (.int j188_0)]) rfl 240 rfl ?_
      refine own_aload X hx hby (.ref b146) at_240 rfl rfl 242 rfl ?_
      have Rr := CHr.ext (own_ext0 K) H0
      refine own_callSH X hx hby hZ (st := []) [(.ref b146)] rfl hown hS hk (own_hEL hw) Rr (hw _ (List.mem_of_getElem? (i := 28) rfl)) (hw _ (List.mem_of_getElem? (i := 29) rfl)) (hw _ (List.mem_of_getElem? (i := 30) rfl)) (hw _ (List.mem_of_getElem? (i := 31) rfl)) (by decide) at_242 (rm5_p l Z a0 hw b146 4 (updI (updI (updI (updI (fun _ => (0 : Int32)) 0 (nar .char v12)) 1 (nar .char v18)) 2 (nar .char v24)) 3 (nar .char v31)) b173r b173gg b173nb u_COMPACT_STRINGS u_SIOOBE_FORMATTER b173cd h173 n0 Zs hcs hsf hstr173 (by decide) (by decide) A_b173r (S_COMPACT_STRINGS.ext (own_ext0 K)) (S_SIOOBE_FORMATTER.ext (own_ext0 K)) (S__assertionsDisabled.ext (own_ext0 K)) (S_HI_BYTE_SHIFT.ext (own_ext0 K)) (S_LO_BYTE_SHIFT.ext (own_ext0 K)) E_b146 F_value_b146 F_coder_b146) eT pd_13 rfl (by rw [hml]; rfl) (by decide) 0 rfl (by decide) (by decide) (by decide) 245 rfl ?_
      intro T242 L9 v9 vm242 X hS hZ hown Rr hQ
      obtain ⟨h242, eT⟩ : ∃ z, T242.heap = z := ⟨_, rfl⟩
      rw [eT] at hQ Rr
      obtain ⟨rfl, N9, Kc⟩ := hQ
      have E_b146 := E_b146.keep Kc
      have F_value_b146 := F_value_b146.keep Kc nin0
      have F_coder_b146 := F_coder_b146.keep Kc nin0
      have A_b151 := A_b151.keep Kc nin0
      have E_b151 := E_b151.keep Kc
      have A_b173r := A_b173r.keep Kc nin0
      have hk : T242.heap.size ≤ h242.size := by rw [eT]; exact Nat.le_refl _
      have K := K.trans Kc all0
      have Zs := Nat.le_trans Zs Kc.1
      have N := Fr.app N N9
      show Go p e below _ T242 (mkF m 245 #[.val (.int p1), .val (.int p2), .val (.int p3), .val (.int p4), .val (.int p5), .val (.int (4 : Int32)), .val (.int v12), .val (.int v18), .val (.int v24), .val (.int v31), .val (.ref b146), .val (.int j188_0)] [(.int (own_res (updI (updI (updI (updI (fun _ => (0 : Int32)) 0 (nar .char v12)) 1 (nar .char v18)) 2 (nar .char v24)) 3 (nar .char v31)) 0 4))])
      refine own_iload X hx hby j188_0 at_245 rfl 247 rfl ?_
      have c247 : (own_res (updI (updI (updI (updI (fun _ => (0 : Int32)) 0 (nar .char v12)) 1 (nar .char v18)) 2 (nar .char v24)) 3 (nar .char v31)) 0 4) = j188_0 := own_law4 _ _ _ _ _ (own_dr _ _ e12) (own_dr _ _ e18) (own_dr _ _ e24) (own_dr _ _ e31) ej188_0
      refine own_icmp_ne X hx hby at_247 254 250 (by decide) rfl (fun q => absurd c247 q) (fun _ => ?_)
      refine own_iconst X hx hby (1 : Int32) at_250 rfl 251 rfl ?_
      refine own_goto X hx hby at_251 255 (by decide) ?_
      refine own_retNH X hx hby hZ hS (Nat.le_trans hk (Nat.le_of_eq (by rw [eT]))) eT (own_hEL hw) Rr hret hlk (t := .boolean) (z' := (1 : Int32)) (by simp) at_255 (by decide) (by decide) rfl ?_
      rw [eT]
      exact ⟨rfl, N⟩
    refine own_if_eq X hx hby at_188 237 191 (by decide) rfl (fun c188 => ?_) (fun c188 => ?_)
    · skip
      refine own_iconst X hx hby (0 : Int32) at_237 rfl 238 rfl ?_
      exact J188 _ _ X eT N _ (by rw [if_pos c188])
    · skip
      refine own_iload X hx hby (4 : Int32) at_191 rfl 193 rfl ?_
      refine own_iconst X hx hby (2 : Int32) at_193 rfl 194 rfl ?_
      have c194 : ¬ (4 : Int32) < (2 : Int32) := by decide
      refine own_icmp_lt X hx hby at_194 205 197 (by decide) rfl (fun q => absurd q c194) (fun _ => ?_)
      refine own_iload X hx hby v18 at_197 rfl 199 rfl ?_
      refine own_callS X hx hby hZ (st := []) [(.int v18)] rfl hown (hw _ (List.mem_of_getElem? (i := 48) rfl)) (hw _ (List.mem_of_getElem? (i := 49) rfl)) (hw _ (List.mem_of_getElem? (i := 3) rfl)) (hw _ (List.mem_of_getElem? (i := 50) rfl)) (by decide) at_199 (rm10 l Z a0 hw v18 h173 n0 Zs ) eT pd_4 rfl (by rw [hml]; rfl) (by decide) 0 rfl (by decide) (by decide) (by decide) 202 rfl ?_
      intro T199 L9 v9 X hQ
      obtain ⟨rfl, N9, eT⟩ := hQ
      have N := Fr.app N N9
      show Go p e below _ T199 (mkF m 202 #[.val (.int p1), .val (.int p2), .val (.int p3), .val (.int p4), .val (.int p5), .val (.int (4 : Int32)), .val (.int v12), .val (.int v18), .val (.int v24), .val (.int v31), .val (.ref b146), .unset] [(.int (own_tok v18))])
      refine own_if_eq X hx hby at_202 237 205 (by decide) rfl (fun c202 => ?_) (fun c202 => ?_)
      · skip
        refine own_iconst X hx hby (0 : Int32) at_237 rfl 238 rfl ?_
        exact J188 _ _ X eT N _ (by rw [if_neg c188, if_pos c202])
      · skip
        refine own_iload X hx hby (4 : Int32) at_205 rfl 207 rfl ?_
        refine own_iconst X hx hby (3 : Int32) at_207 rfl 208 rfl ?_
        have c208 : ¬ (4 : Int32) < (3 : Int32) := by decide
        refine own_icmp_lt X hx hby at_208 219 211 (by decide) rfl (fun q => absurd q c208) (fun _ => ?_)
        refine own_iload X hx hby v24 at_211 rfl 213 rfl ?_
        refine own_callS X hx hby hZ (st := []) [(.int v24)] rfl hown (hw _ (List.mem_of_getElem? (i := 48) rfl)) (hw _ (List.mem_of_getElem? (i := 49) rfl)) (hw _ (List.mem_of_getElem? (i := 3) rfl)) (hw _ (List.mem_of_getElem? (i := 50) rfl)) (by decide) at_213 (rm10 l Z a0 hw v24 h173 n0 Zs ) eT pd_4 rfl (by rw [hml]; rfl) (by decide) 0 rfl (by decide) (by decide) (by decide) 216 rfl ?_
        intro T213 L9 v9 X hQ
        obtain ⟨rfl, N9, eT⟩ := hQ
        have N := Fr.app N N9
        show Go p e below _ T213 (mkF m 216 #[.val (.int p1), .val (.int p2), .val (.int p3), .val (.int p4), .val (.int p5), .val (.int (4 : Int32)), .val (.int v12), .val (.int v18), .val (.int v24), .val (.int v31), .val (.ref b146), .unset] [(.int (own_tok v24))])
        refine own_if_eq X hx hby at_216 237 219 (by decide) rfl (fun c216 => ?_) (fun c216 => ?_)
        · skip
          refine own_iconst X hx hby (0 : Int32) at_237 rfl 238 rfl ?_
          exact J188 _ _ X eT N _ (by rw [if_neg c188, if_neg c202, if_pos c216])
        · skip
          refine own_iload X hx hby (4 : Int32) at_219 rfl 221 rfl ?_
          refine own_iconst X hx hby (4 : Int32) at_221 rfl 222 rfl ?_
          have c222 : ¬ (4 : Int32) < (4 : Int32) := by decide
          refine own_icmp_lt X hx hby at_222 233 225 (by decide) rfl (fun q => absurd q c222) (fun _ => ?_)
          refine own_iload X hx hby v31 at_225 rfl 227 rfl ?_
          refine own_callS X hx hby hZ (st := []) [(.int v31)] rfl hown (hw _ (List.mem_of_getElem? (i := 48) rfl)) (hw _ (List.mem_of_getElem? (i := 49) rfl)) (hw _ (List.mem_of_getElem? (i := 3) rfl)) (hw _ (List.mem_of_getElem? (i := 50) rfl)) (by decide) at_227 (rm10 l Z a0 hw v31 h173 n0 Zs ) eT pd_4 rfl (by rw [hml]; rfl) (by decide) 0 rfl (by decide) (by decide) (by decide) 230 rfl ?_
          intro T227 L9 v9 X hQ
          obtain ⟨rfl, N9, eT⟩ := hQ
          have N := Fr.app N N9
          show Go p e below _ T227 (mkF m 230 #[.val (.int p1), .val (.int p2), .val (.int p3), .val (.int p4), .val (.int p5), .val (.int (4 : Int32)), .val (.int v12), .val (.int v18), .val (.int v24), .val (.int v31), .val (.ref b146), .unset] [(.int (own_tok v31))])
          refine own_if_eq X hx hby at_230 237 233 (by decide) rfl (fun c230 => ?_) (fun c230 => ?_)
          · skip
            refine own_iconst X hx hby (0 : Int32) at_237 rfl 238 rfl ?_
            exact J188 _ _ X eT N _ (by rw [if_neg c188, if_neg c202, if_neg c216, if_pos c230])
          · skip
            refine own_iconst X hx hby (1 : Int32) at_233 rfl 234 rfl ?_
            refine own_goto X hx hby at_234 238 (by decide) ?_
            exact J188 _ _ X eT N _ (by rw [if_neg c188, if_neg c202, if_neg c216, if_neg c230])
theorem own_cs {args : Array Value} {s : State} {u : Int32} (ev : (Term.static "java/lang/String" "COMPACT_STRINGS" "Z").eval args s none [] s = some (.int u)) (h : Jvm.Lit.compactW.before args s = true) : ¬ u = (0 : Int32) := by
  intro q
  subst q
  have h1 := Cond.before_iff.mp h
  simp [Jvm.Lit.compactW, Cond.value, ev, Term.int_eval] at h1
set_option maxRecDepth 65536 in
set_option maxHeartbeats 40000000 in
theorem comes_1 {Post : Tables → Env → Array Value → State → Outcome → State → Prop} (hpost : ∀ tb e args s v u, (limb_1_1.after args s (.returned v) u = true ∧ limb_1_2.after args s (.returned v) u = true ∧ True) → ReturnedEndW s (.returned v) u (Jvm.fieldLocs frame_1_writes args s ++ Jvm.arrayLocs frame_1_arrays args s ++ Jvm.staticLocs frame_1_statics s) 24 2176 → Post tb e args s (.returned v) u) :
    ArmFor flags0 classFile x code maxLocals ret World_1 tables_1 room_1 Calls_1 rest_1 Pre_1 Post := by
  intro l hfl _ _ p e ha hc hk s m args below hf hA hF happ hP
  obtain ⟨hcalls, hrest, hpre⟩ := hP
  obtain ⟨-, -, -, hnamed, -, -, -, hat⟩ := (Spec.applies_iff hf).mp happ
  obtain ⟨hg, hn⟩ := and_e (Cond.before_iff.mp (show (Jvm.Cond.and given_1 narrow_1).before args s = true from hpre))
  obtain ⟨gg1, gg2⟩ := and_e hg
  obtain ⟨gg3, gg4⟩ := and_e gg2
  obtain ⟨gg5, gg6⟩ := and_e gg4
  obtain ⟨gg7, gg8⟩ := and_e gg6
  obtain ⟨gg9, gg10⟩ := and_e gg8
  obtain ⟨w0, w1, w2, w3, w4, rfl⟩ : ∃ w0 w1 w2 w3 w4 : Value, args = #[w0, w1, w2, w3, w4] := by
    have hs : args.size = 5 := by simpa [Cond.value, given_1] using gg1
    obtain ⟨L⟩ := args
    match L, hs with
    | [w0, w1, w2, w3, w4], _ => exact ⟨w0, w1, w2, w3, w4, rfl⟩
  have hw := fun d (hd : d ∈ tables_1) => atoms_spec (ws := Jvm.Cond.code x code maxLocals ret :: tables_1) hat d (List.mem_cons_of_mem _ hd)
  have hfit : Fit s := fun {y c} hc i hi => by
    obtain ⟨ha, rfl⟩ := Array.getElem?_eq_some_iff.mp hc
    have q := List.all_eq_true.mp ((Array.all_eq_true_iff_forall_mem.mp hF) _ (Array.getElem_mem ha)) i (List.mem_range.mpr hi)
    simpa [Array.getElem?_eq_getElem hi] using q
  obtain ⟨hsets, hown0⟩ := atoms_of _ (rest_1_c_eq ▸ (show rest_1_c.before _ s = true from hrest))
  have hr0 := Cond.before_iff.mp hown0
  obtain ⟨i0, ei0⟩ := is_v gg3
  obtain rfl : w0 = (.int i0) := Option.some.inj ei0
  obtain ⟨i1, ei1⟩ := is_v gg5
  obtain rfl : w1 = (.int i1) := Option.some.inj ei1
  obtain ⟨i2, ei2⟩ := is_v gg7
  obtain rfl : w2 = (.int i2) := Option.some.inj ei2
  obtain ⟨i3, ei3⟩ := is_v gg9
  obtain rfl : w3 = (.int i3) := Option.some.inj ei3
  obtain ⟨i4, ei4⟩ := is_v gg10
  obtain rfl : w4 = (.int i4) := Option.some.inj ei4
  obtain ⟨u_COMPACT_STRINGS, evC⟩ := is_v (Cond.before_iff.mp (hsets _ (List.mem_of_getElem? (i := 1) rfl)))
  have S_COMPACT_STRINGS := Sta.start evC (Or.inl (hsets _ (List.mem_of_getElem? (i := 0) rfl)))
  have hcw : Jvm.Lit.compactW.before _ s = true := (hsets _ (List.mem_of_getElem? (i := 2) rfl))
  have hcs : ¬ u_COMPACT_STRINGS = (0 : Int32) := own_cs evC hcw
  obtain ⟨u_SIOOBE_FORMATTER, evF, hsf⟩ := isR_v (Cond.before_iff.mp (hsets _ (List.mem_of_getElem? (i := 8) rfl)))
  have S_SIOOBE_FORMATTER := Sta.start evF (Or.inl (hsets _ (List.mem_of_getElem? (i := 7) rfl)))
  have ev__assertionsDisabled : (Jvm.Term.static "java/lang/StringUTF16" "$assertionsDisabled" "Z").eval _ s none [] s = some (.int 1) := Cond.eq_int (show (Jvm.Cond.eq (Jvm.Term.static "java/lang/StringUTF16" "$assertionsDisabled" "Z") (.int 1)).holds _ s none s [] = true from (hsets _ (List.mem_of_getElem? (i := 12) rfl))) rfl
  have S__assertionsDisabled := Sta.start ev__assertionsDisabled (Or.inl (hsets _ (List.mem_of_getElem? (i := 11) rfl)))
  have ev_HI_BYTE_SHIFT : (Jvm.Term.static "java/lang/StringUTF16" "HI_BYTE_SHIFT" "I").eval _ s none [] s = some (.int 0) := Cond.eq_int (show (Jvm.Cond.eq (Jvm.Term.static "java/lang/StringUTF16" "HI_BYTE_SHIFT" "I") (.int 0)).holds _ s none s [] = true from (hsets _ (List.mem_of_getElem? (i := 15) rfl))) rfl
  have S_HI_BYTE_SHIFT := Sta.start ev_HI_BYTE_SHIFT (Or.inl (hsets _ (List.mem_of_getElem? (i := 14) rfl)))
  have ev_LO_BYTE_SHIFT : (Jvm.Term.static "java/lang/StringUTF16" "LO_BYTE_SHIFT" "I").eval _ s none [] s = some (.int 8) := Cond.eq_int (show (Jvm.Cond.eq (Jvm.Term.static "java/lang/StringUTF16" "LO_BYTE_SHIFT" "I") (.int 8)).holds _ s none s [] = true from (hsets _ (List.mem_of_getElem? (i := 18) rfl))) rfl
  have S_LO_BYTE_SHIFT := Sta.start ev_LO_BYTE_SHIFT (Or.inl (hsets _ (List.mem_of_getElem? (i := 17) rfl)))
  have hCH : CHv s own_EL s.vm s.heap := CHv.start (own_hEL hw) (fun p hp => hcalls.1 p hp) hcw (hw _ (List.mem_of_getElem? (i := 21) rfl)) (hw _ (List.mem_of_getElem? (i := 7) rfl))
  obtain ⟨n, o, h1, h2, h3, _, L, rfl, ⟨rfl, N⟩, _, hq⟩ := rm0 l s _ hw i0 i1 i2 i3 i4 u_COMPACT_STRINGS u_SIOOBE_FORMATTER s.heap s.heap.size (Nat.le_refl _) hcs hsf S_COMPACT_STRINGS S_SIOOBE_FORMATTER S__assertionsDisabled S_HI_BYTE_SHIFT S_LO_BYTE_SHIFT tables_1 p e ha hc hk s m _ below hf ((Spec.applies_iff_loose hf).mp happ).1 ⟨rfl, State.Warmed39.refl s, rfl, hCH⟩ trivial
  refine ⟨n, _, h1, h2, h3, hpost _ _ _ _ _ _ ⟨Cond.after_iff.mpr rfl, Cond.after_iff.mpr (eq_i res_at (Term.int_eval (1)) rfl), trivial⟩ ⟨hq.1, hq.2.1, hq.2.2.1, (hq.2.2.2.sift fun y hy => Or.inr (N y hy)).mono (by decide) (by decide)⟩⟩
theorem main_1_1 : Claimed_1_1 := comes_1 fun _ _ _ _ _ _ h hF => ⟨h.1, hF⟩
theorem main_1_2 : Claimed_1_2 := comes_1 fun _ _ _ _ _ _ h hF => ⟨h.2.1, hF⟩
end Jvm.Pilot.@@N@@
namespace Jvm.Pilot.@@N@@
open Jvm Jvm.ClassFile Sem Op Lib Jvm.Free Jvm.Stand Jvm.Pilot.@@N@@.Jvm.D
/-! MADE BY PROGRAM (witnessworld.py) out of the Statement's table words and the real class files: 21 classes; the members and pool entries that the words name. The judged class is class 1, her method 1. -/
namespace start1
open Jvm.ClassFile
def u (s : String) : CpInfo := .utf8 (stringToUtf16 s)
/-- a pool by its gaps: so many unusable entries, then the entry; so many at the end -/
def gap : Nat → List CpInfo → List CpInfo
  | 0, r => r
  | n + 1, r => .unusable :: gap n r
def poolList (es : List (Nat × CpInfo)) (last : Nat) : List CpInfo := es.foldr (fun e r => gap e.1 (e.2 :: r)) (gap last [])
def pool (es : List (Nat × CpInfo)) (last : Nat) : Array CpInfo := ⟨poolList es last⟩
def fileOf (pool : Array CpInfo) (this : Nat) (attrs : Array Attribute := #[]) (ms : Array MethodInfo := #[]) (fl : Nat := 33) (sup : Nat := 0) (ifs : Array Nat := #[]) (fds : Array FieldInfo := #[]) : ClassFile where
  minorVersion := 0
  majorVersion := 65
  constantPool := pool
  accessFlags := fl
  thisClass := this
  superClass := sup
  interfaces := ifs
  fields := fds
  methods := ms
  attributes := attrs
def plain (name : String) (sup : Option ClassId) : Class where
  name := name
  kind := .ordinary
  loader := none
  accessFlags := 33
  super := sup
  interfaces := #[]
  cf := none
  fields := #[]
  methods := #[]
  instanceTypes := #[]
  staticTypes := #[]
  resolved := #[]
  callSites := []
  init := .initialized
  statics := none
  mirror := none

def pool0 : Array CpInfo := pool [(5, u "<init>"), (0, u "()V"), (1, .class_ 10), (1, u "java/lang/Object")] 113

def k0c0 : Code := { maxStack := 0, maxLocals := 1, code := object_method_1_code, exceptionTable := #[], attributes := #[] }
def k0m0 : Method := { name := "<init>", desc := "()V", sig := { parameters := [], returnType := none }, accessFlags := 1, code := some k0c0 }
/-- java/lang/Object -/
def k0 : Class := { plain "java/lang/Object" none with
  accessFlags := 33
  interfaces := #[]
  cf := some (fileOf pool0 8 #[] #[{ accessFlags := 1, nameIndex := 5, descriptorIndex := 6, attributes := #[] }] 33 0 #[] #[])
  fields := #[]
  methods := #[k0m0]
  instanceTypes := #[]
  staticTypes := #[]
  resolved := Array.replicate 124 none
  statics := none }

def pool1 : Array CpInfo := pool [(2, .class_ 4), (1, u "java/lang/Object"), (0, u "<init>"), (0, u "()V"), (0, .integer 2147483647), (0, .methodref 9 10), (0, .class_ 11), (0, .nameAndType 12 13), (0, u "com/example/operant/operant/HeaderFieldsIsTokenPinLaw"), (0, u "draw"), (0, u "(I)C"), (0, .class_ 15), (0, u "java/lang/String"), (0, .methodref 14 17), (0, .nameAndType 5 18), (0, u "([C)V"), (0, .methodref 9 20), (0, .nameAndType 21 22), (0, u "tok"), (0, u "(C)Z"), (0, .methodref 24 25), (0, .class_ 26), (0, .nameAndType 27 28), (0, u "com/example/operant/operant/HeaderFields"), (0, u "isToken"), (0, u "(Ljava/lang/String;)Z"), (0, .integer 65536), (0, .integer 65535), (2, u "law"), (0, u "(IIIII)Z")] 3

def k1m0 : Method := { name := "<init>", desc := "()V", sig := { parameters := [], returnType := none }, accessFlags := 1, code := none }
def k1c1 : Code := { maxStack := 6, maxLocals := 12, code := code, exceptionTable := #[], attributes := #[] }
def k1m1 : Method := { name := "law", desc := "(IIIII)Z", sig := { parameters := [.int, .int, .int, .int, .int], returnType := some .boolean }, accessFlags := 9, code := some k1c1 }
def k1c2 : Code := { maxStack := 2, maxLocals := 1, code := method_3_code, exceptionTable := #[], attributes := #[] }
def k1m2 : Method := { name := "draw", desc := "(I)C", sig := { parameters := [.int], returnType := some .char }, accessFlags := 10, code := some k1c2 }
def k1c3 : Code := { maxStack := 2, maxLocals := 1, code := method_4_code, exceptionTable := #[], attributes := #[] }
def k1m3 : Method := { name := "tok", desc := "(C)Z", sig := { parameters := [.char], returnType := some .boolean }, accessFlags := 10, code := some k1c3 }
/-- com/example/operant/operant/HeaderFieldsIsTokenPinLaw -/
def k1 : Class := { plain "com/example/operant/operant/HeaderFieldsIsTokenPinLaw" (some 0) with
  accessFlags := 49
  interfaces := #[]
  cf := some (fileOf pool1 9 #[] #[{ accessFlags := 1, nameIndex := 5, descriptorIndex := 6, attributes := #[] }, { accessFlags := 9, nameIndex := 33, descriptorIndex := 34, attributes := #[] }, { accessFlags := 10, nameIndex := 12, descriptorIndex := 13, attributes := #[] }, { accessFlags := 10, nameIndex := 21, descriptorIndex := 22, attributes := #[] }] 49 2 #[] #[])
  fields := #[]
  methods := #[k1m0, k1m1, k1m2, k1m3]
  instanceTypes := #[]
  staticTypes := #[]
  resolved := Array.replicate 38 none
  statics := none }

def pool2 : Array CpInfo := pool [(1, .class_ 2), (0, u "java/io/Serializable"), (0, .class_ 4), (0, u "java/lang/Object")] 2

/-- java/io/Serializable -/
def k2 : Class := { plain "java/io/Serializable" (some 0) with
  accessFlags := 1537
  interfaces := #[]
  cf := some (fileOf pool2 1 #[] #[] 1537 3 #[] #[])
  fields := #[]
  methods := #[]
  instanceTypes := #[]
  staticTypes := #[]
  resolved := Array.replicate 7 none
  statics := none }

def pool3 : Array CpInfo := pool [(1, .class_ 2), (0, u "java/lang/Comparable"), (0, .class_ 4), (0, u "java/lang/Object")] 7

/-- java/lang/Comparable -/
def k3 : Class := { plain "java/lang/Comparable" (some 0) with
  accessFlags := 1537
  interfaces := #[]
  cf := some (fileOf pool3 1 #[] #[] 1537 3 #[] #[])
  fields := #[]
  methods := #[]
  instanceTypes := #[]
  staticTypes := #[]
  resolved := Array.replicate 12 none
  statics := none }

def pool4 : Array CpInfo := pool [(2, .class_ 4), (1, u "java/lang/CharSequence"), (42, .class_ 48), (0, u "java/lang/CharSequence$1CodePointIterator"), (10, .class_ 60), (0, u "java/lang/CharSequence$1CharIterator"), (5, .class_ 67), (0, u "java/lang/Object")] 63

/-- java/lang/CharSequence -/
def k4 : Class := { plain "java/lang/CharSequence" (some 0) with
  accessFlags := 1537
  interfaces := #[]
  cf := some (fileOf pool4 2 #[.nestMembers #[47, 59]] #[] 1537 66 #[] #[])
  fields := #[]
  methods := #[]
  instanceTypes := #[]
  staticTypes := #[]
  resolved := Array.replicate 131 none
  statics := none }

def pool5 : Array CpInfo := pool [(1, .class_ 2), (0, u "java/lang/constant/Constable"), (0, .class_ 4), (0, u "java/lang/Object")] 6

/-- java/lang/constant/Constable -/
def k5 : Class := { plain "java/lang/constant/Constable" (some 0) with
  accessFlags := 1537
  interfaces := #[]
  cf := some (fileOf pool5 1 #[] #[] 1537 3 #[] #[])
  fields := #[]
  methods := #[]
  instanceTypes := #[]
  staticTypes := #[]
  resolved := Array.replicate 11 none
  statics := none }

def pool6 : Array CpInfo := pool [(1, .class_ 2), (0, u "java/lang/constant/ConstantDesc"), (0, .class_ 4), (0, u "java/lang/Object")] 32

/-- java/lang/constant/ConstantDesc -/
def k6 : Class := { plain "java/lang/constant/ConstantDesc" (some 0) with
  accessFlags := 1537
  interfaces := #[]
  cf := some (fileOf pool6 1 #[] #[] 1537 3 #[] #[])
  fields := #[]
  methods := #[]
  instanceTypes := #[]
  staticTypes := #[]
  resolved := Array.replicate 37 none
  statics := none }

def pool7 : Array CpInfo := pool [(1, .methodref 2 3), (0, .class_ 4), (0, .nameAndType 5 6), (0, u "java/lang/Object"), (0, u "<init>"), (0, u "()V"), (0, .string 8), (0, u ""), (0, .fieldref 10 11), (0, .class_ 12), (0, .nameAndType 13 14), (0, u "java/lang/String"), (0, u "value"), (0, u "[B"), (0, .fieldref 10 16), (0, .nameAndType 17 18), (0, u "coder"), (0, u "B"), (2, u "hash"), (0, u "I"), (2, u "hashIsZero"), (0, u "Z"), (0, .methodref 10 28), (0, .nameAndType 5 29), (0, u "([CIILjava/lang/Void;)V"), (8, .fieldref 10 39), (0, .nameAndType 40 26), (0, u "COMPACT_STRINGS"), (1, .class_ 44), (1, u "java/lang/StringUTF16"), (0, u "compress"), (1, .methodref 42 48), (0, .nameAndType 49 50), (0, u "coderFromArrayLen"), (0, u "([BI)B"), (56, .class_ 109), (1, u "java/lang/StringLatin1"), (32, u "()Z"), (34, .methodref 42 178), (0, .nameAndType 45 179), (0, u "([CII)[B"), (154, u "()I"), (0, .methodref 10 336), (0, .nameAndType 17 337), (0, u "()B"), (25, u "([BI)C"), (27, u "(II)V"), (35, u "(I)C"), (64, .methodref 10 493), (0, .nameAndType 494 142), (0, u "isLatin1"), (0, .methodref 107 496), (0, .nameAndType 497 363), (0, u "charAt"), (0, .methodref 42 496), (2, u "checkIndex"), (3, .methodref 10 506), (0, .nameAndType 507 334), (0, u "length"), (67, .class_ 576), (0, u "java/lang/CharSequence"), (22, u "CASE_INSENSITIVE_ORDER"), (0, u "Ljava/util/Comparator;"), (32, .methodref 10 634), (0, .nameAndType 635 636), (0, u "indexOf"), (0, u "(II)I"), (0, .methodref 107 638), (0, .nameAndType 635 639), (0, u "([BIII)I"), (52, u "isEmpty"), (72, u "(I)I"), (244, u "([C)V"), (42, .fieldref 1054 1055), (0, .class_ 1056), (0, .nameAndType 1057 1058), (0, u "jdk/internal/util/Preconditions"), (0, u "SIOOBE_FORMATTER"), (0, u "Ljava/util/function/BiFunction;"), (0, .methodref 1054 1060), (0, .nameAndType 501 1061), (0, u "(IILjava/util/function/BiFunction;)I"), (39, u "serialPersistentFields"), (0, u "[Ljava/io/ObjectStreamField;"), (0, .class_ 1104), (0, u "java/lang/String$CaseInsensitiveComparator"), (1, .class_ 1107), (0, u "java/io/Serializable"), (0, .class_ 1109), (0, u "java/lang/Comparable"), (0, .class_ 1111), (0, u "java/lang/constant/Constable"), (0, .class_ 1113), (0, u "java/lang/constant/ConstantDesc"), (2, u "serialVersionUID"), (0, u "J"), (3, u "REPL"), (0, u "C"), (2, u "LATIN1"), (1, u "UTF16")] 323

def k7m0 : Method := { name := "<init>", desc := "()V", sig := { parameters := [], returnType := none }, accessFlags := 1, code := none }
def k7c1 : Code := { maxStack := 5, maxLocals := 2, code := jdk_42_method_3_code, exceptionTable := #[], attributes := #[] }
def k7m1 : Method := { name := "<init>", desc := "([C)V", sig := { parameters := [(.array .char)], returnType := none }, accessFlags := 1, code := some k7c1 }
def k7c2 : Code := { maxStack := 2, maxLocals := 1, code := jdk_42_method_54_code, exceptionTable := #[], attributes := #[] }
def k7m2 : Method := { name := "length", desc := "()I", sig := { parameters := [], returnType := some .int }, accessFlags := 1, code := some k7c2 }
def k7c3 : Code := { maxStack := 1, maxLocals := 1, code := jdk_42_method_55_code, exceptionTable := #[], attributes := #[] }
def k7m3 : Method := { name := "isEmpty", desc := "()Z", sig := { parameters := [], returnType := some .boolean }, accessFlags := 1, code := some k7c3 }
def k7c4 : Code := { maxStack := 2, maxLocals := 2, code := jdk_42_method_56_code, exceptionTable := #[], attributes := #[] }
def k7m4 : Method := { name := "charAt", desc := "(I)C", sig := { parameters := [.int], returnType := some .char }, accessFlags := 1, code := some k7c4 }
def k7c5 : Code := { maxStack := 3, maxLocals := 2, code := jdk_42_method_79_code, exceptionTable := #[], attributes := #[] }
def k7m5 : Method := { name := "indexOf", desc := "(I)I", sig := { parameters := [.int], returnType := some .int }, accessFlags := 1, code := some k7c5 }
def k7c6 : Code := { maxStack := 4, maxLocals := 3, code := jdk_42_method_80_code, exceptionTable := #[], attributes := #[] }
def k7m6 : Method := { name := "indexOf", desc := "(II)I", sig := { parameters := [.int, .int], returnType := some .int }, accessFlags := 1, code := some k7c6 }
def k7c7 : Code := { maxStack := 4, maxLocals := 6, code := jdk_42_method_149_code, exceptionTable := #[], attributes := #[] }
def k7m7 : Method := { name := "<init>", desc := "([CIILjava/lang/Void;)V", sig := { parameters := [(.array .char), .int, .int, (.object "java/lang/Void")], returnType := none }, accessFlags := 2, code := some k7c7 }
def k7c8 : Code := { maxStack := 1, maxLocals := 1, code := jdk_42_method_152_code, exceptionTable := #[], attributes := #[] }
def k7m8 : Method := { name := "coder", desc := "()B", sig := { parameters := [], returnType := some .byte }, accessFlags := 0, code := some k7c8 }
def k7c9 : Code := { maxStack := 1, maxLocals := 1, code := jdk_42_method_154_code, exceptionTable := #[], attributes := #[] }
def k7m9 : Method := { name := "isLatin1", desc := "()Z", sig := { parameters := [], returnType := some .boolean }, accessFlags := 0, code := some k7c9 }
def k7c10 : Code := { maxStack := 3, maxLocals := 2, code := jdk_42_method_155_code, exceptionTable := #[], attributes := #[] }
def k7m10 : Method := { name := "checkIndex", desc := "(II)V", sig := { parameters := [.int, .int], returnType := none }, accessFlags := 8, code := some k7c10 }
/-- java/lang/String -/
def k7 : Class := { plain "java/lang/String" (some 0) with
  accessFlags := 49
  interfaces := #[2, 3, 4, 5, 6]
  cf := some (fileOf pool7 10 #[.nestMembers #[1103]] #[{ accessFlags := 1, nameIndex := 5, descriptorIndex := 6, attributes := #[] }, { accessFlags := 1, nameIndex := 5, descriptorIndex := 1010, attributes := #[] }, { accessFlags := 1, nameIndex := 507, descriptorIndex := 334, attributes := #[] }, { accessFlags := 1, nameIndex := 692, descriptorIndex := 142, attributes := #[] }, { accessFlags := 1, nameIndex := 497, descriptorIndex := 427, attributes := #[] }, { accessFlags := 1, nameIndex := 635, descriptorIndex := 765, attributes := #[] }, { accessFlags := 1, nameIndex := 635, descriptorIndex := 636, attributes := #[] }, { accessFlags := 2, nameIndex := 5, descriptorIndex := 29, attributes := #[] }, { accessFlags := 0, nameIndex := 17, descriptorIndex := 337, attributes := #[] }, { accessFlags := 0, nameIndex := 494, descriptorIndex := 142, attributes := #[] }, { accessFlags := 8, nameIndex := 501, descriptorIndex := 391, attributes := #[] }] 49 2 #[1106, 1108, 575, 1110, 1112] #[{ accessFlags := 18, nameIndex := 13, descriptorIndex := 14, attributes := #[] }, { accessFlags := 18, nameIndex := 17, descriptorIndex := 18, attributes := #[] }, { accessFlags := 2, nameIndex := 21, descriptorIndex := 22, attributes := #[] }, { accessFlags := 2, nameIndex := 25, descriptorIndex := 26, attributes := #[] }, { accessFlags := 26, nameIndex := 1116, descriptorIndex := 1117, attributes := #[] }, { accessFlags := 24, nameIndex := 40, descriptorIndex := 26, attributes := #[] }, { accessFlags := 26, nameIndex := 1101, descriptorIndex := 1102, attributes := #[] }, { accessFlags := 26, nameIndex := 1121, descriptorIndex := 1122, attributes := #[] }, { accessFlags := 25, nameIndex := 599, descriptorIndex := 600, attributes := #[] }, { accessFlags := 24, nameIndex := 1125, descriptorIndex := 18, attributes := #[] }, { accessFlags := 24, nameIndex := 1127, descriptorIndex := 18, attributes := #[] }])
  fields := #[{ name := "value", type := (.array .byte), accessFlags := 18, slot := 0, constantValue := 0 }, { name := "coder", type := .byte, accessFlags := 18, slot := 1, constantValue := 0 }, { name := "hash", type := .int, accessFlags := 2, slot := 2, constantValue := 0 }, { name := "hashIsZero", type := .boolean, accessFlags := 2, slot := 3, constantValue := 0 }, { name := "serialVersionUID", type := .long, accessFlags := 26, slot := 0, constantValue := 0 }, { name := "COMPACT_STRINGS", type := .boolean, accessFlags := 24, slot := 1, constantValue := 0 }, { name := "serialPersistentFields", type := (.array (.object "java/io/ObjectStreamField")), accessFlags := 26, slot := 2, constantValue := 0 }, { name := "REPL", type := .char, accessFlags := 26, slot := 3, constantValue := 0 }, { name := "CASE_INSENSITIVE_ORDER", type := (.object "java/util/Comparator"), accessFlags := 25, slot := 4, constantValue := 0 }, { name := "LATIN1", type := .byte, accessFlags := 24, slot := 5, constantValue := 0 }, { name := "UTF16", type := .byte, accessFlags := 24, slot := 6, constantValue := 0 }]
  methods := #[k7m0, k7m1, k7m2, k7m3, k7m4, k7m5, k7m6, k7m7, k7m8, k7m9, k7m10]
  instanceTypes := #[(.array .byte), .byte, .int, .boolean]
  staticTypes := #[.long, .boolean, (.array (.object "java/io/ObjectStreamField")), .char, (.object "java/util/Comparator"), .byte, .byte]
  resolved := Array.replicate 1451 none
  statics := some 0 }

def pool8 : Array CpInfo := pool [(2, .class_ 4), (1, u "java/lang/Object"), (3, .class_ 10), (1, u "com/example/operant/operant/HeaderFields"), (0, u "byName"), (0, u "Ljava/util/Map;"), (7, .class_ 22), (1, u "java/lang/String"), (27, .methodref 20 51), (0, .nameAndType 52 53), (0, u "isEmpty"), (0, u "()Z"), (0, .methodref 20 55), (0, .nameAndType 56 57), (0, u "length"), (0, u "()I"), (0, .methodref 20 59), (0, .nameAndType 60 61), (0, u "charAt"), (0, u "(I)C"), (0, .methodref 8 63), (0, .nameAndType 64 65), (0, u "isLetterOrDigit"), (0, u "(C)Z"), (0, .string 67), (0, u "!#$%&'*+-.^_`|~"), (0, .methodref 20 69), (0, .nameAndType 70 71), (0, u "indexOf"), (0, u "(I)I"), (8, u "NONE"), (0, u "Lcom/example/operant/operant/HeaderFields;"), (0, u "TOKEN_SYMBOLS"), (0, u "Ljava/lang/String;"), (12, u "isToken"), (0, u "(Ljava/lang/String;)Z")] 4

def k8c0 : Code := { maxStack := 2, maxLocals := 3, code := prog_3_method_4_code, exceptionTable := #[], attributes := #[] }
def k8m0 : Method := { name := "isToken", desc := "(Ljava/lang/String;)Z", sig := { parameters := [(.object "java/lang/String")], returnType := some .boolean }, accessFlags := 8, code := some k8c0 }
def k8c1 : Code := { maxStack := 2, maxLocals := 1, code := prog_3_method_6_code, exceptionTable := #[], attributes := #[] }
def k8m1 : Method := { name := "isLetterOrDigit", desc := "(C)Z", sig := { parameters := [.char], returnType := some .boolean }, accessFlags := 8, code := some k8c1 }
/-- com/example/operant/operant/HeaderFields -/
def k8 : Class := { plain "com/example/operant/operant/HeaderFields" (some 0) with
  accessFlags := 49
  interfaces := #[]
  cf := some (fileOf pool8 8 #[] #[{ accessFlags := 8, nameIndex := 96, descriptorIndex := 97, attributes := #[] }, { accessFlags := 8, nameIndex := 64, descriptorIndex := 65, attributes := #[] }] 49 2 #[] #[{ accessFlags := 24, nameIndex := 80, descriptorIndex := 81, attributes := #[] }, { accessFlags := 24, nameIndex := 82, descriptorIndex := 83, attributes := #[] }, { accessFlags := 18, nameIndex := 11, descriptorIndex := 12, attributes := #[] }])
  fields := #[{ name := "NONE", type := (.object "com/example/operant/operant/HeaderFields"), accessFlags := 24, slot := 0, constantValue := 0 }, { name := "TOKEN_SYMBOLS", type := (.object "java/lang/String"), accessFlags := 24, slot := 1, constantValue := 0 }, { name := "byName", type := (.object "java/util/Map"), accessFlags := 18, slot := 0, constantValue := 0 }]
  methods := #[k8m0, k8m1]
  instanceTypes := #[(.object "java/util/Map")]
  staticTypes := #[(.object "com/example/operant/operant/HeaderFields"), (.object "java/lang/String")]
  resolved := Array.replicate 102 none
  statics := none }

def pool9 : Array CpInfo := pool [(3, .class_ 4), (0, u "java/lang/String"), (1, .class_ 8), (1, u "java/lang/Object"), (0, u "<init>"), (0, u "()V"), (0, .methodref 12 13), (0, .class_ 14), (0, .nameAndType 15 16), (0, u "java/lang/StringUTF16"), (0, u "newBytesLength"), (0, u "(I)I"), (3, .integer 1073741823), (23, .fieldref 12 45), (0, .nameAndType 46 47), (0, u "$assertionsDisabled"), (0, u "Z"), (0, .methodref 12 49), (0, .nameAndType 50 51), (0, u "length"), (0, u "([B)I"), (7, .fieldref 12 60), (0, .nameAndType 61 62), (0, u "HI_BYTE_SHIFT"), (0, u "I"), (0, .fieldref 12 64), (0, .nameAndType 65 62), (0, u "LO_BYTE_SHIFT"), (1, .methodref 12 68), (0, .nameAndType 69 70), (0, u "checkIndex"), (0, u "(I[B)V"), (0, .methodref 12 72), (0, .nameAndType 73 74), (0, u "getChar"), (0, u "([BI)C"), (32, .methodref 12 108), (0, .nameAndType 109 110), (0, u "newBytesFor"), (0, u "(I)[B"), (0, .methodref 12 112), (0, .nameAndType 113 114), (0, u "putChar"), (0, u "([BII)V"), (0, .methodref 12 116), (0, .nameAndType 117 118), (0, u "compress"), (0, u "([CI[BII)I"), (0, .methodref 12 120), (0, .nameAndType 121 122), (0, u "toBytes"), (0, u "([CII)[B"), (138, u "coderFromArrayLen"), (0, u "([BI)B"), (106, .class_ 371), (1, u "java/lang/StringUTF16$LinesSpliterator"), (20, u "charAt"), (21, .methodref 3 415), (0, .nameAndType 69 416), (0, u "(II)V"), (13, u "MAX_LENGTH"), (196, .class_ 628), (0, u "java/lang/StringUTF16$CodePointsSpliterator"), (0, .class_ 630), (0, u "java/lang/StringUTF16$CharsSpliterator")] 4

def k9m0 : Method := { name := "<init>", desc := "()V", sig := { parameters := [], returnType := none }, accessFlags := 0, code := none }
def k9c1 : Code := { maxStack := 1, maxLocals := 1, code := jdk_52_method_2_code, exceptionTable := #[], attributes := #[] }
def k9m1 : Method := { name := "newBytesFor", desc := "(I)[B", sig := { parameters := [.int], returnType := some (.array .byte) }, accessFlags := 9, code := some k9c1 }
def k9c2 : Code := { maxStack := 4, maxLocals := 1, code := jdk_52_method_3_code, exceptionTable := #[], attributes := #[] }
def k9m2 : Method := { name := "newBytesLength", desc := "(I)I", sig := { parameters := [.int], returnType := some .int }, accessFlags := 9, code := some k9c2 }
def k9c3 : Code := { maxStack := 4, maxLocals := 3, code := jdk_52_method_4_code, exceptionTable := #[], attributes := #[] }
def k9m3 : Method := { name := "putChar", desc := "([BII)V", sig := { parameters := [(.array .byte), .int, .int], returnType := none }, accessFlags := 8, code := some k9c3 }
def k9c4 : Code := { maxStack := 3, maxLocals := 2, code := jdk_52_method_5_code, exceptionTable := #[], attributes := #[] }
def k9m4 : Method := { name := "getChar", desc := "([BI)C", sig := { parameters := [(.array .byte), .int], returnType := some .char }, accessFlags := 8, code := some k9c4 }
def k9c5 : Code := { maxStack := 2, maxLocals := 1, code := jdk_52_method_6_code, exceptionTable := #[], attributes := #[] }
def k9m5 : Method := { name := "length", desc := "([B)I", sig := { parameters := [(.array .byte)], returnType := some .int }, accessFlags := 9, code := some k9c5 }
def k9c6 : Code := { maxStack := 4, maxLocals := 5, code := jdk_52_method_14_code, exceptionTable := #[], attributes := #[] }
def k9m6 : Method := { name := "toBytes", desc := "([CII)[B", sig := { parameters := [(.array .char), .int, .int], returnType := some (.array .byte) }, accessFlags := 9, code := some k9c6 }
def k9c7 : Code := { maxStack := 2, maxLocals := 2, code := jdk_52_method_15_code, exceptionTable := #[], attributes := #[] }
def k9m7 : Method := { name := "coderFromArrayLen", desc := "([BI)B", sig := { parameters := [(.array .byte), .int], returnType := some .byte }, accessFlags := 8, code := some k9c7 }
def k9c8 : Code := { maxStack := 5, maxLocals := 6, code := jdk_52_method_16_code, exceptionTable := #[], attributes := #[] }
def k9m8 : Method := { name := "compress", desc := "([CII)[B", sig := { parameters := [(.array .char), .int, .int], returnType := some (.array .byte) }, accessFlags := 9, code := some k9c8 }
def k9c9 : Code := { maxStack := 3, maxLocals := 7, code := jdk_52_method_21_code, exceptionTable := #[], attributes := #[] }
def k9m9 : Method := { name := "compress", desc := "([CI[BII)I", sig := { parameters := [(.array .char), .int, (.array .byte), .int, .int], returnType := some .int }, accessFlags := 9, code := some k9c9 }
def k9c10 : Code := { maxStack := 2, maxLocals := 2, code := jdk_52_method_83_code, exceptionTable := #[], attributes := #[] }
def k9m10 : Method := { name := "charAt", desc := "([BI)C", sig := { parameters := [(.array .byte), .int], returnType := some .char }, accessFlags := 9, code := some k9c10 }
def k9c11 : Code := { maxStack := 2, maxLocals := 2, code := jdk_52_method_91_code, exceptionTable := #[], attributes := #[] }
def k9m11 : Method := { name := "checkIndex", desc := "(I[B)V", sig := { parameters := [.int, (.array .byte)], returnType := none }, accessFlags := 9, code := some k9c11 }
/-- java/lang/StringUTF16 -/
def k9 : Class := { plain "java/lang/StringUTF16" (some 0) with
  accessFlags := 48
  interfaces := #[]
  cf := some (fileOf pool9 12 #[.nestMembers #[627, 629, 369]] #[{ accessFlags := 0, nameIndex := 9, descriptorIndex := 10, attributes := #[] }, { accessFlags := 9, nameIndex := 109, descriptorIndex := 110, attributes := #[] }, { accessFlags := 9, nameIndex := 15, descriptorIndex := 16, attributes := #[] }, { accessFlags := 8, nameIndex := 113, descriptorIndex := 114, attributes := #[] }, { accessFlags := 8, nameIndex := 73, descriptorIndex := 74, attributes := #[] }, { accessFlags := 9, nameIndex := 50, descriptorIndex := 51, attributes := #[] }, { accessFlags := 9, nameIndex := 121, descriptorIndex := 122, attributes := #[] }, { accessFlags := 8, nameIndex := 261, descriptorIndex := 262, attributes := #[] }, { accessFlags := 9, nameIndex := 117, descriptorIndex := 122, attributes := #[] }, { accessFlags := 9, nameIndex := 117, descriptorIndex := 118, attributes := #[] }, { accessFlags := 9, nameIndex := 392, descriptorIndex := 74, attributes := #[] }, { accessFlags := 9, nameIndex := 69, descriptorIndex := 70, attributes := #[] }] 48 6 #[] #[{ accessFlags := 26, nameIndex := 61, descriptorIndex := 62, attributes := #[] }, { accessFlags := 26, nameIndex := 65, descriptorIndex := 62, attributes := #[] }, { accessFlags := 24, nameIndex := 430, descriptorIndex := 62, attributes := #[] }, { accessFlags := 4120, nameIndex := 46, descriptorIndex := 47, attributes := #[] }])
  fields := #[{ name := "HI_BYTE_SHIFT", type := .int, accessFlags := 26, slot := 0, constantValue := 0 }, { name := "LO_BYTE_SHIFT", type := .int, accessFlags := 26, slot := 1, constantValue := 0 }, { name := "MAX_LENGTH", type := .int, accessFlags := 24, slot := 2, constantValue := 0 }, { name := "$assertionsDisabled", type := .boolean, accessFlags := 4120, slot := 3, constantValue := 0 }]
  methods := #[k9m0, k9m1, k9m2, k9m3, k9m4, k9m5, k9m6, k9m7, k9m8, k9m9, k9m10, k9m11]
  instanceTypes := #[]
  staticTypes := #[.int, .int, .int, .boolean]
  resolved := Array.replicate 635 none
  statics := some 1 }

def pool10 : Array CpInfo := pool [(1, .class_ 2), (0, u "java/lang/String"), (1, .class_ 6), (1, u "java/lang/Object"), (0, u "<init>"), (0, u "()V"), (0, .methodref 1 10), (0, .nameAndType 11 12), (0, u "checkIndex"), (0, u "(II)V"), (1, .class_ 16), (1, u "java/lang/StringLatin1"), (21, .methodref 39 40), (0, .class_ 41), (0, .nameAndType 42 43), (0, u "java/lang/Math"), (0, u "min"), (0, u "(II)I"), (9, u "([BI)C"), (34, .methodref 14 89), (0, .nameAndType 90 91), (0, u "canEncode"), (0, u "(I)Z"), (0, .methodref 39 93), (0, .nameAndType 94 43), (0, u "max"), (0, .methodref 14 96), (0, .nameAndType 97 98), (0, u "indexOfChar"), (0, u "([BIII)I"), (2, u "indexOf"), (19, u "$assertionsDisabled"), (0, u "Z"), (98, .class_ 223), (1, u "java/lang/StringLatin1$LinesSpliterator"), (28, u "charAt"), (137, .class_ 391), (0, u "java/lang/StringLatin1$CharsSpliterator")] 3

def k10m0 : Method := { name := "<init>", desc := "()V", sig := { parameters := [], returnType := none }, accessFlags := 0, code := none }
def k10c1 : Code := { maxStack := 2, maxLocals := 2, code := jdk_43_method_2_code, exceptionTable := #[], attributes := #[] }
def k10m1 : Method := { name := "charAt", desc := "([BI)C", sig := { parameters := [(.array .byte), .int], returnType := some .char }, accessFlags := 9, code := some k10c1 }
def k10c2 : Code := { maxStack := 2, maxLocals := 1, code := jdk_43_method_4_code, exceptionTable := #[], attributes := #[] }
def k10m2 : Method := { name := "canEncode", desc := "(I)Z", sig := { parameters := [.int], returnType := some .boolean }, accessFlags := 9, code := some k10c2 }
def k10c3 : Code := { maxStack := 4, maxLocals := 4, code := jdk_43_method_22_code, exceptionTable := #[], attributes := #[] }
def k10m3 : Method := { name := "indexOf", desc := "([BIII)I", sig := { parameters := [(.array .byte), .int, .int, .int], returnType := some .int }, accessFlags := 9, code := some k10c3 }
def k10c4 : Code := { maxStack := 2, maxLocals := 6, code := jdk_43_method_23_code, exceptionTable := #[], attributes := #[] }
def k10m4 : Method := { name := "indexOfChar", desc := "([BIII)I", sig := { parameters := [(.array .byte), .int, .int, .int], returnType := some .int }, accessFlags := 10, code := some k10c4 }
/-- java/lang/StringLatin1 -/
def k10 : Class := { plain "java/lang/StringLatin1" (some 0) with
  accessFlags := 48
  interfaces := #[]
  cf := some (fileOf pool10 14 #[.nestMembers #[390, 221]] #[{ accessFlags := 0, nameIndex := 7, descriptorIndex := 8, attributes := #[] }, { accessFlags := 9, nameIndex := 252, descriptorIndex := 53, attributes := #[] }, { accessFlags := 9, nameIndex := 90, descriptorIndex := 91, attributes := #[] }, { accessFlags := 9, nameIndex := 101, descriptorIndex := 98, attributes := #[] }, { accessFlags := 10, nameIndex := 97, descriptorIndex := 98, attributes := #[] }] 48 4 #[] #[{ accessFlags := 4120, nameIndex := 121, descriptorIndex := 122, attributes := #[] }])
  fields := #[{ name := "$assertionsDisabled", type := .boolean, accessFlags := 4120, slot := 0, constantValue := 0 }]
  methods := #[k10m0, k10m1, k10m2, k10m3, k10m4]
  instanceTypes := #[]
  staticTypes := #[.boolean]
  resolved := Array.replicate 395 none
  statics := none }

def pool11 : Array CpInfo := pool [(2, .class_ 4), (1, u "java/lang/Object"), (0, u "<init>"), (0, u "()V"), (17, .class_ 26), (1, u "jdk/internal/util/Preconditions"), (6, u "checkIndex"), (21, .class_ 56), (0, u "jdk/internal/util/Preconditions$4"), (57, .class_ 115), (0, u "jdk/internal/util/Preconditions$1"), (7, u "SIOOBE_FORMATTER"), (0, u "Ljava/util/function/BiFunction;"), (0, .class_ 126), (0, u "jdk/internal/util/Preconditions$2"), (3, u "AIOOBE_FORMATTER"), (0, .class_ 132), (0, u "jdk/internal/util/Preconditions$3"), (3, u "IOOBE_FORMATTER"), (41, u "(IILjava/util/function/BiFunction;)I")] 15

def k11m0 : Method := { name := "<init>", desc := "()V", sig := { parameters := [], returnType := none }, accessFlags := 1, code := none }
def k11c1 : Code := { maxStack := 3, maxLocals := 3, code := jdk_41_method_11_code, exceptionTable := #[], attributes := #[] }
def k11m1 : Method := { name := "checkIndex", desc := "(IILjava/util/function/BiFunction;)I", sig := { parameters := [.int, .int, (.object "java/util/function/BiFunction")], returnType := some .int }, accessFlags := 9, code := some k11c1 }
/-- jdk/internal/util/Preconditions -/
def k11 : Class := { plain "jdk/internal/util/Preconditions" (some 0) with
  accessFlags := 33
  interfaces := #[]
  cf := some (fileOf pool11 24 #[.nestMembers #[55, 131, 125, 114]] #[{ accessFlags := 1, nameIndex := 5, descriptorIndex := 6, attributes := #[] }, { accessFlags := 9, nameIndex := 33, descriptorIndex := 178, attributes := #[] }] 33 2 #[] #[{ accessFlags := 25, nameIndex := 123, descriptorIndex := 124, attributes := #[] }, { accessFlags := 25, nameIndex := 130, descriptorIndex := 124, attributes := #[] }, { accessFlags := 25, nameIndex := 136, descriptorIndex := 124, attributes := #[] }])
  fields := #[{ name := "SIOOBE_FORMATTER", type := (.object "java/util/function/BiFunction"), accessFlags := 25, slot := 0, constantValue := 0 }, { name := "AIOOBE_FORMATTER", type := (.object "java/util/function/BiFunction"), accessFlags := 25, slot := 1, constantValue := 0 }, { name := "IOOBE_FORMATTER", type := (.object "java/util/function/BiFunction"), accessFlags := 25, slot := 2, constantValue := 0 }]
  methods := #[k11m0, k11m1]
  instanceTypes := #[]
  staticTypes := #[(.object "java/util/function/BiFunction"), (.object "java/util/function/BiFunction"), (.object "java/util/function/BiFunction")]
  resolved := Array.replicate 194 none
  statics := some 2 }

def pool12 : Array CpInfo := pool [(1, .class_ 2), (0, u "java/lang/Math"), (1, .class_ 6), (1, u "java/lang/Object"), (0, u "<init>"), (0, u "()V"), (89, .class_ 100), (1, u "java/lang/Math$RandomNumberGeneratorHolder"), (71, u "negativeZeroFloatBits"), (0, u "J"), (2, u "negativeZeroDoubleBits"), (21, u "max"), (2, u "min"), (43, u "$assertionsDisabled"), (0, u "Z"), (88, u "(II)I"), (2, u "twoToTheDoubleScaleDown"), (0, u "D"), (4, u "twoToTheDoubleScaleUp"), (9, u "E"), (3, u "PI"), (2, u "TAU"), (2, u "DEGREES_TO_RADIANS"), (0, u "RADIANS_TO_DEGREES")] 94

def k12m0 : Method := { name := "<init>", desc := "()V", sig := { parameters := [], returnType := none }, accessFlags := 2, code := none }
def k12c1 : Code := { maxStack := 2, maxLocals := 2, code := jdk_29_method_65_code, exceptionTable := #[], attributes := #[] }
def k12m1 : Method := { name := "max", desc := "(II)I", sig := { parameters := [.int, .int], returnType := some .int }, accessFlags := 9, code := some k12c1 }
def k12c2 : Code := { maxStack := 2, maxLocals := 2, code := jdk_29_method_69_code, exceptionTable := #[], attributes := #[] }
def k12m2 : Method := { name := "min", desc := "(II)I", sig := { parameters := [.int, .int], returnType := some .int }, accessFlags := 9, code := some k12c2 }
/-- java/lang/Math -/
def k12 : Class := { plain "java/lang/Math" (some 0) with
  accessFlags := 49
  interfaces := #[]
  cf := some (fileOf pool12 1 #[.nestMembers #[98]] #[{ accessFlags := 2, nameIndex := 7, descriptorIndex := 8, attributes := #[] }, { accessFlags := 9, nameIndex := 198, descriptorIndex := 335, attributes := #[] }, { accessFlags := 9, nameIndex := 201, descriptorIndex := 335, attributes := #[] }] 49 4 #[] #[{ accessFlags := 25, nameIndex := 354, descriptorIndex := 339, attributes := #[] }, { accessFlags := 25, nameIndex := 358, descriptorIndex := 339, attributes := #[] }, { accessFlags := 25, nameIndex := 361, descriptorIndex := 339, attributes := #[] }, { accessFlags := 26, nameIndex := 364, descriptorIndex := 339, attributes := #[] }, { accessFlags := 26, nameIndex := 365, descriptorIndex := 339, attributes := #[] }, { accessFlags := 26, nameIndex := 172, descriptorIndex := 173, attributes := #[] }, { accessFlags := 26, nameIndex := 176, descriptorIndex := 173, attributes := #[] }, { accessFlags := 8, nameIndex := 344, descriptorIndex := 339, attributes := #[] }, { accessFlags := 8, nameIndex := 338, descriptorIndex := 339, attributes := #[] }, { accessFlags := 4120, nameIndex := 245, descriptorIndex := 246, attributes := #[] }])
  fields := #[{ name := "E", type := .double, accessFlags := 25, slot := 0, constantValue := 0 }, { name := "PI", type := .double, accessFlags := 25, slot := 1, constantValue := 0 }, { name := "TAU", type := .double, accessFlags := 25, slot := 2, constantValue := 0 }, { name := "DEGREES_TO_RADIANS", type := .double, accessFlags := 26, slot := 3, constantValue := 0 }, { name := "RADIANS_TO_DEGREES", type := .double, accessFlags := 26, slot := 4, constantValue := 0 }, { name := "negativeZeroFloatBits", type := .long, accessFlags := 26, slot := 5, constantValue := 0 }, { name := "negativeZeroDoubleBits", type := .long, accessFlags := 26, slot := 6, constantValue := 0 }, { name := "twoToTheDoubleScaleUp", type := .double, accessFlags := 8, slot := 7, constantValue := 0 }, { name := "twoToTheDoubleScaleDown", type := .double, accessFlags := 8, slot := 8, constantValue := 0 }, { name := "$assertionsDisabled", type := .boolean, accessFlags := 4120, slot := 9, constantValue := 0 }]
  methods := #[k12m0, k12m1, k12m2]
  instanceTypes := #[]
  staticTypes := #[.double, .double, .double, .double, .double, .long, .long, .double, .double, .boolean]
  resolved := Array.replicate 460 none
  statics := none }

def pool13 : Array CpInfo := pool [(9, u "<init>"), (6, .class_ 18), (1, u "java/lang/Object"), (0, u "()V"), (1, .class_ 23), (1, u "jdk/internal/util/ArraysSupport"), (0, u "LOG2_ARRAY_LONG_INDEX_SCALE"), (0, u "I"), (2, u "U"), (0, u "Ljdk/internal/misc/Unsafe;"), (8, u "BIG_ENDIAN"), (0, u "Z"), (8, u "LOG2_BYTE_BIT_SIZE"), (4, u "LOG2_ARRAY_INT_INDEX_SCALE"), (54, u "JLA"), (0, u "Ljdk/internal/access/JavaLangAccess;"), (11, u "LOG2_ARRAY_BOOLEAN_INDEX_SCALE"), (9, u "LOG2_ARRAY_BYTE_INDEX_SCALE"), (5, u "LOG2_ARRAY_CHAR_INDEX_SCALE"), (5, u "LOG2_ARRAY_SHORT_INDEX_SCALE"), (18, u "LOG2_ARRAY_FLOAT_INDEX_SCALE"), (24, u "LOG2_ARRAY_DOUBLE_INDEX_SCALE"), (89, u "T_BOOLEAN"), (2, u "T_CHAR"), (1, u "T_FLOAT"), (1, u "T_DOUBLE"), (1, u "T_BYTE"), (1, u "T_SHORT"), (1, u "T_INT"), (1, u "T_LONG"), (1, u "SOFT_MAX_ARRAY_LENGTH")] 83

def k13m0 : Method := { name := "<init>", desc := "()V", sig := { parameters := [], returnType := none }, accessFlags := 2, code := none }
/-- jdk/internal/util/ArraysSupport -/
def k13 : Class := { plain "jdk/internal/util/ArraysSupport" (some 0) with
  accessFlags := 33
  interfaces := #[]
  cf := some (fileOf pool13 21 #[] #[{ accessFlags := 2, nameIndex := 9, descriptorIndex := 19, attributes := #[] }] 33 16 #[] #[{ accessFlags := 24, nameIndex := 28, descriptorIndex := 29, attributes := #[] }, { accessFlags := 26, nameIndex := 38, descriptorIndex := 39, attributes := #[] }, { accessFlags := 25, nameIndex := 121, descriptorIndex := 25, attributes := #[] }, { accessFlags := 25, nameIndex := 131, descriptorIndex := 25, attributes := #[] }, { accessFlags := 25, nameIndex := 137, descriptorIndex := 25, attributes := #[] }, { accessFlags := 25, nameIndex := 143, descriptorIndex := 25, attributes := #[] }, { accessFlags := 25, nameIndex := 53, descriptorIndex := 25, attributes := #[] }, { accessFlags := 25, nameIndex := 24, descriptorIndex := 25, attributes := #[] }, { accessFlags := 25, nameIndex := 162, descriptorIndex := 25, attributes := #[] }, { accessFlags := 25, nameIndex := 187, descriptorIndex := 25, attributes := #[] }, { accessFlags := 26, nameIndex := 48, descriptorIndex := 25, attributes := #[] }, { accessFlags := 25, nameIndex := 277, descriptorIndex := 25, attributes := #[] }, { accessFlags := 25, nameIndex := 280, descriptorIndex := 25, attributes := #[] }, { accessFlags := 25, nameIndex := 282, descriptorIndex := 25, attributes := #[] }, { accessFlags := 25, nameIndex := 284, descriptorIndex := 25, attributes := #[] }, { accessFlags := 25, nameIndex := 286, descriptorIndex := 25, attributes := #[] }, { accessFlags := 25, nameIndex := 288, descriptorIndex := 25, attributes := #[] }, { accessFlags := 25, nameIndex := 290, descriptorIndex := 25, attributes := #[] }, { accessFlags := 25, nameIndex := 292, descriptorIndex := 25, attributes := #[] }, { accessFlags := 26, nameIndex := 108, descriptorIndex := 109, attributes := #[] }, { accessFlags := 25, nameIndex := 294, descriptorIndex := 25, attributes := #[] }])
  fields := #[{ name := "U", type := (.object "jdk/internal/misc/Unsafe"), accessFlags := 24, slot := 0, constantValue := 0 }, { name := "BIG_ENDIAN", type := .boolean, accessFlags := 26, slot := 1, constantValue := 0 }, { name := "LOG2_ARRAY_BOOLEAN_INDEX_SCALE", type := .int, accessFlags := 25, slot := 2, constantValue := 0 }, { name := "LOG2_ARRAY_BYTE_INDEX_SCALE", type := .int, accessFlags := 25, slot := 3, constantValue := 0 }, { name := "LOG2_ARRAY_CHAR_INDEX_SCALE", type := .int, accessFlags := 25, slot := 4, constantValue := 0 }, { name := "LOG2_ARRAY_SHORT_INDEX_SCALE", type := .int, accessFlags := 25, slot := 5, constantValue := 0 }, { name := "LOG2_ARRAY_INT_INDEX_SCALE", type := .int, accessFlags := 25, slot := 6, constantValue := 0 }, { name := "LOG2_ARRAY_LONG_INDEX_SCALE", type := .int, accessFlags := 25, slot := 7, constantValue := 0 }, { name := "LOG2_ARRAY_FLOAT_INDEX_SCALE", type := .int, accessFlags := 25, slot := 8, constantValue := 0 }, { name := "LOG2_ARRAY_DOUBLE_INDEX_SCALE", type := .int, accessFlags := 25, slot := 9, constantValue := 0 }, { name := "LOG2_BYTE_BIT_SIZE", type := .int, accessFlags := 26, slot := 10, constantValue := 0 }, { name := "T_BOOLEAN", type := .int, accessFlags := 25, slot := 11, constantValue := 0 }, { name := "T_CHAR", type := .int, accessFlags := 25, slot := 12, constantValue := 0 }, { name := "T_FLOAT", type := .int, accessFlags := 25, slot := 13, constantValue := 0 }, { name := "T_DOUBLE", type := .int, accessFlags := 25, slot := 14, constantValue := 0 }, { name := "T_BYTE", type := .int, accessFlags := 25, slot := 15, constantValue := 0 }, { name := "T_SHORT", type := .int, accessFlags := 25, slot := 16, constantValue := 0 }, { name := "T_INT", type := .int, accessFlags := 25, slot := 17, constantValue := 0 }, { name := "T_LONG", type := .int, accessFlags := 25, slot := 18, constantValue := 0 }, { name := "JLA", type := (.object "jdk/internal/access/JavaLangAccess"), accessFlags := 26, slot := 19, constantValue := 0 }, { name := "SOFT_MAX_ARRAY_LENGTH", type := .int, accessFlags := 25, slot := 20, constantValue := 0 }]
  methods := #[k13m0]
  instanceTypes := #[]
  staticTypes := #[(.object "jdk/internal/misc/Unsafe"), .boolean, .int, .int, .int, .int, .int, .int, .int, .int, .int, .int, .int, .int, .int, .int, .int, .int, .int, (.object "jdk/internal/access/JavaLangAccess"), .int]
  resolved := Array.replicate 378 none
  statics := none }

def pool14 : Array CpInfo := pool [(1, u "java/lang/Cloneable"), (0, .class_ 1), (0, u "java/lang/Object"), (0, .class_ 3)] 3

/-- java/lang/Cloneable -/
def k14 : Class := { plain "java/lang/Cloneable" (some 0) with
  accessFlags := 1537
  interfaces := #[]
  cf := some (fileOf pool14 2 #[] #[] 1537 4 #[] #[])
  fields := #[]
  methods := #[]
  instanceTypes := #[]
  staticTypes := #[]
  resolved := Array.replicate 8 none
  statics := none }

/-- the primitive byte -/
def k15 : Class := { plain "byte" none with kind := .primitive 'B', accessFlags := 0x411 }
/-- [B -/
def k16 : Class := { plain "[B" (some 0) with kind := .array 15 .byte, interfaces := #[14, 2], accessFlags := 1041 }

/-- the primitive char -/
def k17 : Class := { plain "char" none with kind := .primitive 'C', accessFlags := 0x411 }
/-- [C -/
def k18 : Class := { plain "[C" (some 0) with kind := .array 17 .char, interfaces := #[14, 2], accessFlags := 1041 }

/-- the primitive int -/
def k19 : Class := { plain "int" none with kind := .primitive 'I', accessFlags := 0x411 }
/-- [I -/
def k20 : Class := { plain "[I" (some 0) with kind := .array 19 .int, interfaces := #[14, 2], accessFlags := 1041 }

def heap : Heap := #[{ cls := 7, slots := #[.long 0, .int 1, .null, .int 0, .null, .int 0, .int 0], vm := .statics 7 },
  { cls := 9, slots := #[.int 0, .int 8, .int 0, .int 1], vm := .statics 9 },
  { cls := 11, slots := #[.null, .null, .null], vm := .statics 11 }]
def classes : Array Class := #[k0, k1, k2, k3, k4, k5, k6, k7, k8, k9, k10, k11, k12, k13, k14, k15, k16, k17, k18, k19, k20]
def interned : List (Array UInt16 × Addr) := []
def slotsUsed : Nat := 14
def theMethod : MethodId := ⟨1, 1⟩
def args0 : Array Value := #[.int 3, .int 65, .int 66, .int 67, .int 68]
def aboutOver (below : List Frame) : State where
  vm := { classes := classes, interned := interned.toArray }
  heap := heap
  slotsUsed := slotsUsed
  threads := #[{ frames := .invoking theMethod args0 :: below }]
def below0 : List Frame := [.native { method := ⟨0, 0⟩, args := #[] }]
def about1 : State := aboutOver below0
def p0 : Program := .bare "" "" ""
def e0 : Env := launch0.env 0 0 0
theorem w_frames : about1.frames = Frame.invoking theMethod args0 :: below0 := rfl
set_option maxRecDepth 65536 in
theorem w_args : argsFit about1.vm theMethod args0 = true := by decide +kernel
set_option maxRecDepth 65536 in
theorem w_heap : heapFits about1 = true := by decide +kernel
set_option maxRecDepth 65536 in
theorem w_runnable : about1.curStatus? = some .runnable := by decide +kernel
set_option maxRecDepth 65536 in
theorem w_alone : about1.alone = true := by decide +kernel
set_option maxRecDepth 65536 in
theorem w_named : about1.methodNamed? x = some theMethod := by decide +kernel
set_option maxRecDepth 65536 in
theorem w_hears : about1.hears theMethod below0 = true := by decide +kernel
set_option maxRecDepth 65536 in
theorem w_ripe : about1.ripe theMethod args0 below0 = true := by decide +kernel
theorem w_running : about1.status = .running := rfl
set_option maxRecDepth 65536 in
theorem w_room : about1.hasRoom e0.platform room_1 = true :=
  launch0.hasRoom_least _ room_1 (by decide +kernel) (by decide +kernel) (by decide +kernel) (by decide +kernel) (by decide +kernel) (by decide +kernel)
theorem allAtoms_all (ts : List Jvm.Cond) (a : Array Jvm.Value) (st : Jvm.State) : (allAtoms ts).before a st = ts.all (fun c => c.before a st) := by
  induction ts with
  | nil => rfl
  | cons c t ih =>
    show (Jvm.Cond.and c (allAtoms t)).before a st = _
    rw [Jvm.Cond.before_and, ih, List.all_cons]
def words1 : List Jvm.Cond := Jvm.Cond.code x code maxLocals ret :: tables_1
/-- a 'code' word, met by the world's own term for the bytes: nothing is compared byte by byte -/
theorem code_word {y : MethodName} {bytes : ByteArray} {mx : Nat} {rt : Option FieldType} {a : Array Value} {s : State} {m : MethodId} {meth : Method} {c : Code} (h1 : s.methodNamed? y = some m) (h2 : s.vm.method? m = some meth) (h3 : meth.code = some c) (h4 : c.code = bytes)
    (h5 : (c.maxLocals == mx && c.exceptionTable.isEmpty && decide (c.maxStack ≤ mostOperands) && decide (meth.sig.returnType = rt) && !meth.locks && decide (parseMethodDescriptor y.desc = some meth.sig)) = true) : (Jvm.Cond.code y bytes mx rt).before a s = true := by
  simp only [Bool.and_eq_true, beq_iff_eq, Bool.not_eq_true', decide_eq_true_eq] at h5
  obtain ⟨⟨⟨⟨⟨g1, g2⟩, g3⟩, g4⟩, g5⟩, g6⟩ := h5
  simp [Cond.before, Cond.holds, Cond.value, h1, h2, h3, h4, g1, g2, g3, g4, g5, g6]
def isCode : Jvm.Cond → Bool
  | .code _ _ _ _ => true
  | _ => false
theorem all_split {L : List Jvm.Cond} {P : Jvm.Cond → Bool} (h1 : L.all (fun c => isCode c || P c) = true) (h2 : ∀ c ∈ L.filter isCode, P c = true) : L.all P = true := by
  refine List.all_eq_true.mpr fun c hc => ?_
  have h := List.all_eq_true.mp h1 c hc
  rcases Bool.eq_false_or_eq_true (isCode c) with hi | hi
  · exact h2 c (List.mem_filter.mpr ⟨hc, hi⟩)
  · simpa [hi] using h
set_option maxRecDepth 65536 in
theorem w_c0 : (Jvm.Cond.code x code maxLocals ret).before args0 about1 = true := code_word (m := ⟨1, 1⟩) (meth := k1m1) (c := k1c1) (by decide +kernel) rfl rfl rfl (by decide +kernel)
set_option maxRecDepth 65536 in
theorem w_c1 : (Jvm.Cond.code ({ cls := "com/example/operant/operant/HeaderFieldsIsTokenPinLaw", name := "draw", desc := "(I)C" } : Jvm.MethodName) method_3_code (1 : Nat) (Option.some Jvm.ClassFile.FieldType.char)).before args0 about1 = true := code_word (m := ⟨1, 2⟩) (meth := k1m2) (c := k1c2) (by decide +kernel) rfl rfl rfl (by decide +kernel)
set_option maxRecDepth 65536 in
theorem w_c2 : (Jvm.Cond.code ({ cls := "java/lang/String", name := "<init>", desc := "([C)V" } : Jvm.MethodName) jdk_42_method_3_code (2 : Nat) (Option.none : Option Jvm.ClassFile.FieldType)).before args0 about1 = true := code_word (m := ⟨7, 1⟩) (meth := k7m1) (c := k7c1) (by decide +kernel) rfl rfl rfl (by decide +kernel)
set_option maxRecDepth 65536 in
theorem w_c3 : (Jvm.Cond.code ({ cls := "java/lang/String", name := "<init>", desc := "([CIILjava/lang/Void;)V" } : Jvm.MethodName) jdk_42_method_149_code (6 : Nat) (Option.none : Option Jvm.ClassFile.FieldType)).before args0 about1 = true := code_word (m := ⟨7, 7⟩) (meth := k7m7) (c := k7c7) (by decide +kernel) rfl rfl rfl (by decide +kernel)
set_option maxRecDepth 65536 in
theorem w_c4 : (Jvm.Cond.code ({ cls := "java/lang/Object", name := "<init>", desc := "()V" } : Jvm.MethodName) object_method_1_code (1 : Nat) (Option.none : Option Jvm.ClassFile.FieldType)).before args0 about1 = true := code_word (m := ⟨0, 0⟩) (meth := k0m0) (c := k0c0) (by decide +kernel) rfl rfl rfl (by decide +kernel)
set_option maxRecDepth 65536 in
theorem w_c5 : (Jvm.Cond.code ({ cls := "com/example/operant/operant/HeaderFields", name := "isToken", desc := "(Ljava/lang/String;)Z" } : Jvm.MethodName) prog_3_method_4_code (3 : Nat) (Option.some Jvm.ClassFile.FieldType.boolean)).before args0 about1 = true := code_word (m := ⟨8, 0⟩) (meth := k8m0) (c := k8c0) (by decide +kernel) rfl rfl rfl (by decide +kernel)
set_option maxRecDepth 65536 in
theorem w_c6 : (Jvm.Cond.code ({ cls := "java/lang/String", name := "isEmpty", desc := "()Z" } : Jvm.MethodName) jdk_42_method_55_code (1 : Nat) (Option.some Jvm.ClassFile.FieldType.boolean)).before args0 about1 = true := code_word (m := ⟨7, 3⟩) (meth := k7m3) (c := k7c3) (by decide +kernel) rfl rfl rfl (by decide +kernel)
set_option maxRecDepth 65536 in
theorem w_c7 : (Jvm.Cond.code ({ cls := "java/lang/StringUTF16", name := "compress", desc := "([CII)[B" } : Jvm.MethodName) jdk_52_method_16_code (6 : Nat) (Option.some (Jvm.ClassFile.FieldType.array Jvm.ClassFile.FieldType.byte))).before args0 about1 = true := code_word (m := ⟨9, 8⟩) (meth := k9m8) (c := k9c8) (by decide +kernel) rfl rfl rfl (by decide +kernel)
set_option maxRecDepth 65536 in
theorem w_c8 : (Jvm.Cond.code ({ cls := "java/lang/StringUTF16", name := "compress", desc := "([CI[BII)I" } : Jvm.MethodName) jdk_52_method_21_code (7 : Nat) (Option.some Jvm.ClassFile.FieldType.int)).before args0 about1 = true := code_word (m := ⟨9, 9⟩) (meth := k9m9) (c := k9c9) (by decide +kernel) rfl rfl rfl (by decide +kernel)
set_option maxRecDepth 65536 in
theorem w_c9 : (Jvm.Cond.code ({ cls := "java/lang/StringUTF16", name := "coderFromArrayLen", desc := "([BI)B" } : Jvm.MethodName) jdk_52_method_15_code (2 : Nat) (Option.some Jvm.ClassFile.FieldType.byte)).before args0 about1 = true := code_word (m := ⟨9, 7⟩) (meth := k9m7) (c := k9c7) (by decide +kernel) rfl rfl rfl (by decide +kernel)
set_option maxRecDepth 65536 in
theorem w_c10 : (Jvm.Cond.code ({ cls := "com/example/operant/operant/HeaderFieldsIsTokenPinLaw", name := "tok", desc := "(C)Z" } : Jvm.MethodName) method_4_code (1 : Nat) (Option.some Jvm.ClassFile.FieldType.boolean)).before args0 about1 = true := code_word (m := ⟨1, 3⟩) (meth := k1m3) (c := k1c3) (by decide +kernel) rfl rfl rfl (by decide +kernel)
set_option maxRecDepth 65536 in
theorem w_c11 : (Jvm.Cond.code ({ cls := "java/lang/String", name := "length", desc := "()I" } : Jvm.MethodName) jdk_42_method_54_code (1 : Nat) (Option.some Jvm.ClassFile.FieldType.int)).before args0 about1 = true := code_word (m := ⟨7, 2⟩) (meth := k7m2) (c := k7c2) (by decide +kernel) rfl rfl rfl (by decide +kernel)
set_option maxRecDepth 65536 in
theorem w_c12 : (Jvm.Cond.code ({ cls := "java/lang/String", name := "coder", desc := "()B" } : Jvm.MethodName) jdk_42_method_152_code (1 : Nat) (Option.some Jvm.ClassFile.FieldType.byte)).before args0 about1 = true := code_word (m := ⟨7, 8⟩) (meth := k7m8) (c := k7c8) (by decide +kernel) rfl rfl rfl (by decide +kernel)
set_option maxRecDepth 65536 in
theorem w_c13 : (Jvm.Cond.code ({ cls := "java/lang/String", name := "charAt", desc := "(I)C" } : Jvm.MethodName) jdk_42_method_56_code (2 : Nat) (Option.some Jvm.ClassFile.FieldType.char)).before args0 about1 = true := code_word (m := ⟨7, 4⟩) (meth := k7m4) (c := k7c4) (by decide +kernel) rfl rfl rfl (by decide +kernel)
set_option maxRecDepth 65536 in
theorem w_c14 : (Jvm.Cond.code ({ cls := "java/lang/String", name := "isLatin1", desc := "()Z" } : Jvm.MethodName) jdk_42_method_154_code (1 : Nat) (Option.some Jvm.ClassFile.FieldType.boolean)).before args0 about1 = true := code_word (m := ⟨7, 9⟩) (meth := k7m9) (c := k7c9) (by decide +kernel) rfl rfl rfl (by decide +kernel)
set_option maxRecDepth 65536 in
theorem w_c15 : (Jvm.Cond.code ({ cls := "java/lang/StringLatin1", name := "charAt", desc := "([BI)C" } : Jvm.MethodName) jdk_43_method_2_code (2 : Nat) (Option.some Jvm.ClassFile.FieldType.char)).before args0 about1 = true := code_word (m := ⟨10, 1⟩) (meth := k10m1) (c := k10c1) (by decide +kernel) rfl rfl rfl (by decide +kernel)
set_option maxRecDepth 65536 in
theorem w_c16 : (Jvm.Cond.code ({ cls := "java/lang/String", name := "checkIndex", desc := "(II)V" } : Jvm.MethodName) jdk_42_method_155_code (2 : Nat) (Option.none : Option Jvm.ClassFile.FieldType)).before args0 about1 = true := code_word (m := ⟨7, 10⟩) (meth := k7m10) (c := k7c10) (by decide +kernel) rfl rfl rfl (by decide +kernel)
set_option maxRecDepth 65536 in
theorem w_c17 : (Jvm.Cond.code ({ cls := "jdk/internal/util/Preconditions", name := "checkIndex", desc := "(IILjava/util/function/BiFunction;)I" } : Jvm.MethodName) jdk_41_method_11_code (3 : Nat) (Option.some Jvm.ClassFile.FieldType.int)).before args0 about1 = true := code_word (m := ⟨11, 1⟩) (meth := k11m1) (c := k11c1) (by decide +kernel) rfl rfl rfl (by decide +kernel)
set_option maxRecDepth 65536 in
theorem w_c18 : (Jvm.Cond.code ({ cls := "com/example/operant/operant/HeaderFields", name := "isLetterOrDigit", desc := "(C)Z" } : Jvm.MethodName) prog_3_method_6_code (1 : Nat) (Option.some Jvm.ClassFile.FieldType.boolean)).before args0 about1 = true := code_word (m := ⟨8, 1⟩) (meth := k8m1) (c := k8c1) (by decide +kernel) rfl rfl rfl (by decide +kernel)
set_option maxRecDepth 65536 in
theorem w_c19 : (Jvm.Cond.code ({ cls := "java/lang/String", name := "indexOf", desc := "(I)I" } : Jvm.MethodName) jdk_42_method_79_code (2 : Nat) (Option.some Jvm.ClassFile.FieldType.int)).before args0 about1 = true := code_word (m := ⟨7, 5⟩) (meth := k7m5) (c := k7c5) (by decide +kernel) rfl rfl rfl (by decide +kernel)
set_option maxRecDepth 65536 in
theorem w_c20 : (Jvm.Cond.code ({ cls := "java/lang/String", name := "indexOf", desc := "(II)I" } : Jvm.MethodName) jdk_42_method_80_code (3 : Nat) (Option.some Jvm.ClassFile.FieldType.int)).before args0 about1 = true := code_word (m := ⟨7, 6⟩) (meth := k7m6) (c := k7c6) (by decide +kernel) rfl rfl rfl (by decide +kernel)
set_option maxRecDepth 65536 in
theorem w_c21 : (Jvm.Cond.code ({ cls := "java/lang/StringLatin1", name := "indexOf", desc := "([BIII)I" } : Jvm.MethodName) jdk_43_method_22_code (4 : Nat) (Option.some Jvm.ClassFile.FieldType.int)).before args0 about1 = true := code_word (m := ⟨10, 3⟩) (meth := k10m3) (c := k10c3) (by decide +kernel) rfl rfl rfl (by decide +kernel)
set_option maxRecDepth 65536 in
theorem w_c22 : (Jvm.Cond.code ({ cls := "java/lang/StringLatin1", name := "canEncode", desc := "(I)Z" } : Jvm.MethodName) jdk_43_method_4_code (1 : Nat) (Option.some Jvm.ClassFile.FieldType.boolean)).before args0 about1 = true := code_word (m := ⟨10, 2⟩) (meth := k10m2) (c := k10c2) (by decide +kernel) rfl rfl rfl (by decide +kernel)
set_option maxRecDepth 65536 in
theorem w_c23 : (Jvm.Cond.code ({ cls := "java/lang/Math", name := "max", desc := "(II)I" } : Jvm.MethodName) jdk_29_method_65_code (2 : Nat) (Option.some Jvm.ClassFile.FieldType.int)).before args0 about1 = true := code_word (m := ⟨12, 1⟩) (meth := k12m1) (c := k12c1) (by decide +kernel) rfl rfl rfl (by decide +kernel)
set_option maxRecDepth 65536 in
theorem w_c24 : (Jvm.Cond.code ({ cls := "java/lang/Math", name := "min", desc := "(II)I" } : Jvm.MethodName) jdk_29_method_69_code (2 : Nat) (Option.some Jvm.ClassFile.FieldType.int)).before args0 about1 = true := code_word (m := ⟨12, 2⟩) (meth := k12m2) (c := k12c2) (by decide +kernel) rfl rfl rfl (by decide +kernel)
set_option maxRecDepth 65536 in
theorem w_c25 : (Jvm.Cond.code ({ cls := "java/lang/StringLatin1", name := "indexOfChar", desc := "([BIII)I" } : Jvm.MethodName) jdk_43_method_23_code (6 : Nat) (Option.some Jvm.ClassFile.FieldType.int)).before args0 about1 = true := code_word (m := ⟨10, 4⟩) (meth := k10m4) (c := k10c4) (by decide +kernel) rfl rfl rfl (by decide +kernel)
set_option maxRecDepth 65536 in
theorem w_c26 : (Jvm.Cond.code ({ cls := "java/lang/StringUTF16", name := "toBytes", desc := "([CII)[B" } : Jvm.MethodName) jdk_52_method_14_code (5 : Nat) (Option.some (Jvm.ClassFile.FieldType.array Jvm.ClassFile.FieldType.byte))).before args0 about1 = true := code_word (m := ⟨9, 6⟩) (meth := k9m6) (c := k9c6) (by decide +kernel) rfl rfl rfl (by decide +kernel)
set_option maxRecDepth 65536 in
theorem w_c27 : (Jvm.Cond.code ({ cls := "java/lang/StringUTF16", name := "newBytesFor", desc := "(I)[B" } : Jvm.MethodName) jdk_52_method_2_code (1 : Nat) (Option.some (Jvm.ClassFile.FieldType.array Jvm.ClassFile.FieldType.byte))).before args0 about1 = true := code_word (m := ⟨9, 1⟩) (meth := k9m1) (c := k9c1) (by decide +kernel) rfl rfl rfl (by decide +kernel)
set_option maxRecDepth 65536 in
theorem w_c28 : (Jvm.Cond.code ({ cls := "java/lang/StringUTF16", name := "newBytesLength", desc := "(I)I" } : Jvm.MethodName) jdk_52_method_3_code (1 : Nat) (Option.some Jvm.ClassFile.FieldType.int)).before args0 about1 = true := code_word (m := ⟨9, 2⟩) (meth := k9m2) (c := k9c2) (by decide +kernel) rfl rfl rfl (by decide +kernel)
set_option maxRecDepth 65536 in
theorem w_c29 : (Jvm.Cond.code ({ cls := "java/lang/StringUTF16", name := "putChar", desc := "([BII)V" } : Jvm.MethodName) jdk_52_method_4_code (3 : Nat) (Option.none : Option Jvm.ClassFile.FieldType)).before args0 about1 = true := code_word (m := ⟨9, 3⟩) (meth := k9m3) (c := k9c3) (by decide +kernel) rfl rfl rfl (by decide +kernel)
set_option maxRecDepth 65536 in
theorem w_c30 : (Jvm.Cond.code ({ cls := "java/lang/StringUTF16", name := "getChar", desc := "([BI)C" } : Jvm.MethodName) jdk_52_method_5_code (2 : Nat) (Option.some Jvm.ClassFile.FieldType.char)).before args0 about1 = true := code_word (m := ⟨9, 4⟩) (meth := k9m4) (c := k9c4) (by decide +kernel) rfl rfl rfl (by decide +kernel)
set_option maxRecDepth 65536 in
theorem w_c31 : (Jvm.Cond.code ({ cls := "java/lang/StringUTF16", name := "charAt", desc := "([BI)C" } : Jvm.MethodName) jdk_52_method_83_code (2 : Nat) (Option.some Jvm.ClassFile.FieldType.char)).before args0 about1 = true := code_word (m := ⟨9, 10⟩) (meth := k9m10) (c := k9c10) (by decide +kernel) rfl rfl rfl (by decide +kernel)
set_option maxRecDepth 65536 in
theorem w_c32 : (Jvm.Cond.code ({ cls := "java/lang/StringUTF16", name := "checkIndex", desc := "(I[B)V" } : Jvm.MethodName) jdk_52_method_91_code (2 : Nat) (Option.none : Option Jvm.ClassFile.FieldType)).before args0 about1 = true := code_word (m := ⟨9, 11⟩) (meth := k9m11) (c := k9c11) (by decide +kernel) rfl rfl rfl (by decide +kernel)
set_option maxRecDepth 65536 in
theorem w_c33 : (Jvm.Cond.code ({ cls := "java/lang/StringUTF16", name := "length", desc := "([B)I" } : Jvm.MethodName) jdk_52_method_6_code (1 : Nat) (Option.some Jvm.ClassFile.FieldType.int)).before args0 about1 = true := code_word (m := ⟨9, 5⟩) (meth := k9m5) (c := k9c5) (by decide +kernel) rfl rfl rfl (by decide +kernel)
def codes1 : List Jvm.Cond := [Jvm.Cond.code x code maxLocals ret, Jvm.Cond.code ({ cls := "com/example/operant/operant/HeaderFieldsIsTokenPinLaw", name := "draw", desc := "(I)C" } : Jvm.MethodName) method_3_code (1 : Nat) (Option.some Jvm.ClassFile.FieldType.char), Jvm.Cond.code ({ cls := "java/lang/String", name := "<init>", desc := "([C)V" } : Jvm.MethodName) jdk_42_method_3_code (2 : Nat) (Option.none : Option Jvm.ClassFile.FieldType), Jvm.Cond.code ({ cls := "java/lang/String", name := "<init>", desc := "([CIILjava/lang/Void;)V" } : Jvm.MethodName) jdk_42_method_149_code (6 : Nat) (Option.none : Option Jvm.ClassFile.FieldType), Jvm.Cond.code ({ cls := "java/lang/Object", name := "<init>", desc := "()V" } : Jvm.MethodName) object_method_1_code (1 : Nat) (Option.none : Option Jvm.ClassFile.FieldType), Jvm.Cond.code ({ cls := "com/example/operant/operant/HeaderFields", name := "isToken", desc := "(Ljava/lang/String;)Z" } : Jvm.MethodName) prog_3_method_4_code (3 : Nat) (Option.some Jvm.ClassFile.FieldType.boolean), Jvm.Cond.code ({ cls := "java/lang/String", name := "isEmpty", desc := "()Z" } : Jvm.MethodName) jdk_42_method_55_code (1 : Nat) (Option.some Jvm.ClassFile.FieldType.boolean), Jvm.Cond.code ({ cls := "java/lang/StringUTF16", name := "compress", desc := "([CII)[B" } : Jvm.MethodName) jdk_52_method_16_code (6 : Nat) (Option.some (Jvm.ClassFile.FieldType.array Jvm.ClassFile.FieldType.byte)), Jvm.Cond.code ({ cls := "java/lang/StringUTF16", name := "compress", desc := "([CI[BII)I" } : Jvm.MethodName) jdk_52_method_21_code (7 : Nat) (Option.some Jvm.ClassFile.FieldType.int), Jvm.Cond.code ({ cls := "java/lang/StringUTF16", name := "coderFromArrayLen", desc := "([BI)B" } : Jvm.MethodName) jdk_52_method_15_code (2 : Nat) (Option.some Jvm.ClassFile.FieldType.byte), Jvm.Cond.code ({ cls := "com/example/operant/operant/HeaderFieldsIsTokenPinLaw", name := "tok", desc := "(C)Z" } : Jvm.MethodName) method_4_code (1 : Nat) (Option.some Jvm.ClassFile.FieldType.boolean), Jvm.Cond.code ({ cls := "java/lang/String", name := "length", desc := "()I" } : Jvm.MethodName) jdk_42_method_54_code (1 : Nat) (Option.some Jvm.ClassFile.FieldType.int), Jvm.Cond.code ({ cls := "java/lang/String", name := "coder", desc := "()B" } : Jvm.MethodName) jdk_42_method_152_code (1 : Nat) (Option.some Jvm.ClassFile.FieldType.byte), Jvm.Cond.code ({ cls := "java/lang/String", name := "charAt", desc := "(I)C" } : Jvm.MethodName) jdk_42_method_56_code (2 : Nat) (Option.some Jvm.ClassFile.FieldType.char), Jvm.Cond.code ({ cls := "java/lang/String", name := "isLatin1", desc := "()Z" } : Jvm.MethodName) jdk_42_method_154_code (1 : Nat) (Option.some Jvm.ClassFile.FieldType.boolean), Jvm.Cond.code ({ cls := "java/lang/StringLatin1", name := "charAt", desc := "([BI)C" } : Jvm.MethodName) jdk_43_method_2_code (2 : Nat) (Option.some Jvm.ClassFile.FieldType.char), Jvm.Cond.code ({ cls := "java/lang/String", name := "checkIndex", desc := "(II)V" } : Jvm.MethodName) jdk_42_method_155_code (2 : Nat) (Option.none : Option Jvm.ClassFile.FieldType), Jvm.Cond.code ({ cls := "jdk/internal/util/Preconditions", name := "checkIndex", desc := "(IILjava/util/function/BiFunction;)I" } : Jvm.MethodName) jdk_41_method_11_code (3 : Nat) (Option.some Jvm.ClassFile.FieldType.int), Jvm.Cond.code ({ cls := "com/example/operant/operant/HeaderFields", name := "isLetterOrDigit", desc := "(C)Z" } : Jvm.MethodName) prog_3_method_6_code (1 : Nat) (Option.some Jvm.ClassFile.FieldType.boolean), Jvm.Cond.code ({ cls := "java/lang/String", name := "indexOf", desc := "(I)I" } : Jvm.MethodName) jdk_42_method_79_code (2 : Nat) (Option.some Jvm.ClassFile.FieldType.int), Jvm.Cond.code ({ cls := "java/lang/String", name := "indexOf", desc := "(II)I" } : Jvm.MethodName) jdk_42_method_80_code (3 : Nat) (Option.some Jvm.ClassFile.FieldType.int), Jvm.Cond.code ({ cls := "java/lang/StringLatin1", name := "indexOf", desc := "([BIII)I" } : Jvm.MethodName) jdk_43_method_22_code (4 : Nat) (Option.some Jvm.ClassFile.FieldType.int), Jvm.Cond.code ({ cls := "java/lang/StringLatin1", name := "canEncode", desc := "(I)Z" } : Jvm.MethodName) jdk_43_method_4_code (1 : Nat) (Option.some Jvm.ClassFile.FieldType.boolean), Jvm.Cond.code ({ cls := "java/lang/Math", name := "max", desc := "(II)I" } : Jvm.MethodName) jdk_29_method_65_code (2 : Nat) (Option.some Jvm.ClassFile.FieldType.int), Jvm.Cond.code ({ cls := "java/lang/Math", name := "min", desc := "(II)I" } : Jvm.MethodName) jdk_29_method_69_code (2 : Nat) (Option.some Jvm.ClassFile.FieldType.int), Jvm.Cond.code ({ cls := "java/lang/StringLatin1", name := "indexOfChar", desc := "([BIII)I" } : Jvm.MethodName) jdk_43_method_23_code (6 : Nat) (Option.some Jvm.ClassFile.FieldType.int), Jvm.Cond.code ({ cls := "java/lang/StringUTF16", name := "toBytes", desc := "([CII)[B" } : Jvm.MethodName) jdk_52_method_14_code (5 : Nat) (Option.some (Jvm.ClassFile.FieldType.array Jvm.ClassFile.FieldType.byte)), Jvm.Cond.code ({ cls := "java/lang/StringUTF16", name := "newBytesFor", desc := "(I)[B" } : Jvm.MethodName) jdk_52_method_2_code (1 : Nat) (Option.some (Jvm.ClassFile.FieldType.array Jvm.ClassFile.FieldType.byte)), Jvm.Cond.code ({ cls := "java/lang/StringUTF16", name := "newBytesLength", desc := "(I)I" } : Jvm.MethodName) jdk_52_method_3_code (1 : Nat) (Option.some Jvm.ClassFile.FieldType.int), Jvm.Cond.code ({ cls := "java/lang/StringUTF16", name := "putChar", desc := "([BII)V" } : Jvm.MethodName) jdk_52_method_4_code (3 : Nat) (Option.none : Option Jvm.ClassFile.FieldType), Jvm.Cond.code ({ cls := "java/lang/StringUTF16", name := "getChar", desc := "([BI)C" } : Jvm.MethodName) jdk_52_method_5_code (2 : Nat) (Option.some Jvm.ClassFile.FieldType.char), Jvm.Cond.code ({ cls := "java/lang/StringUTF16", name := "charAt", desc := "([BI)C" } : Jvm.MethodName) jdk_52_method_83_code (2 : Nat) (Option.some Jvm.ClassFile.FieldType.char), Jvm.Cond.code ({ cls := "java/lang/StringUTF16", name := "checkIndex", desc := "(I[B)V" } : Jvm.MethodName) jdk_52_method_91_code (2 : Nat) (Option.none : Option Jvm.ClassFile.FieldType), Jvm.Cond.code ({ cls := "java/lang/StringUTF16", name := "length", desc := "([B)I" } : Jvm.MethodName) jdk_52_method_6_code (1 : Nat) (Option.some Jvm.ClassFile.FieldType.int)]
set_option maxRecDepth 65536 in
theorem codes_eq : words1.filter isCode = codes1 := rfl
theorem w_codes : ∀ c ∈ words1.filter isCode, c.before args0 about1 = true := by
  rw [codes_eq]
  intro c hc
  simp only [codes1, List.mem_cons, List.not_mem_nil, or_false] at hc
  rcases hc with rfl | rfl | rfl | rfl | rfl | rfl | rfl | rfl | rfl | rfl | rfl | rfl | rfl | rfl | rfl | rfl | rfl | rfl | rfl | rfl | rfl | rfl | rfl | rfl | rfl | rfl | rfl | rfl | rfl | rfl | rfl | rfl | rfl | rfl
  · exact w_c0
  · exact w_c1
  · exact w_c2
  · exact w_c3
  · exact w_c4
  · exact w_c5
  · exact w_c6
  · exact w_c7
  · exact w_c8
  · exact w_c9
  · exact w_c10
  · exact w_c11
  · exact w_c12
  · exact w_c13
  · exact w_c14
  · exact w_c15
  · exact w_c16
  · exact w_c17
  · exact w_c18
  · exact w_c19
  · exact w_c20
  · exact w_c21
  · exact w_c22
  · exact w_c23
  · exact w_c24
  · exact w_c25
  · exact w_c26
  · exact w_c27
  · exact w_c28
  · exact w_c29
  · exact w_c30
  · exact w_c31
  · exact w_c32
  · exact w_c33
set_option maxRecDepth 65536 in
theorem w_t1 : (words1.take 24).all (fun c => isCode c || c.before args0 about1) = true := by decide +kernel
set_option maxRecDepth 65536 in
theorem w_t2 : ((words1.drop 24).take 24).all (fun c => isCode c || c.before args0 about1) = true := by decide +kernel
set_option maxRecDepth 65536 in
theorem w_t3 : (((words1.drop 24).drop 24).take 24).all (fun c => isCode c || c.before args0 about1) = true := by decide +kernel
set_option maxRecDepth 65536 in
theorem w_t4 : ((((words1.drop 24).drop 24).drop 24).take 24).all (fun c => isCode c || c.before args0 about1) = true := by decide +kernel
set_option maxRecDepth 65536 in
theorem w_t5 : (((((words1.drop 24).drop 24).drop 24).drop 24).take 24).all (fun c => isCode c || c.before args0 about1) = true := by decide +kernel
set_option maxRecDepth 65536 in
theorem w_t6 : ((((((words1.drop 24).drop 24).drop 24).drop 24).drop 24).take 24).all (fun c => isCode c || c.before args0 about1) = true := by decide +kernel
set_option maxRecDepth 65536 in
theorem w_t7 : ((((((words1.drop 24).drop 24).drop 24).drop 24).drop 24).drop 24).all (fun c => isCode c || c.before args0 about1) = true := by decide +kernel
theorem w_tables : (allAtoms (Jvm.Cond.code x code maxLocals ret :: tables_1)).before args0 about1 = true := by
  rw [allAtoms_all]
  show words1.all (fun c => c.before args0 about1) = true
  refine all_split ?_ w_codes
  rw [← List.take_append_drop 24 words1, List.all_append, w_t1, ← List.take_append_drop 24 (words1.drop 24), List.all_append, w_t2, ← List.take_append_drop 24 ((words1.drop 24).drop 24), List.all_append, w_t3, ← List.take_append_drop 24 (((words1.drop 24).drop 24).drop 24), List.all_append, w_t4, ← List.take_append_drop 24 ((((words1.drop 24).drop 24).drop 24).drop 24), List.all_append, w_t5, ← List.take_append_drop 24 (((((words1.drop 24).drop 24).drop 24).drop 24).drop 24), List.all_append, w_t6, w_t7]
  rfl
set_option maxRecDepth 65536 in
theorem w_rest : rest_1_c.before args0 about1 = true := by decide +kernel
set_option maxRecDepth 65536 in
theorem w_case : (Jvm.Cond.and given_1 narrow_1).before args0 about1 = true := by decide +kernel
set_option maxRecDepth 65536 in
theorem w_consts : constsHeld consts_1 about1 := Jvm.Lit.constsHeldB_iff.mp (by decide +kernel)
theorem w_applies : (headSpec (Jvm.Cond.code x code maxLocals ret :: tables_1) room_1).applies x e0.platform about1 = true :=
  (Spec.applies_iff w_frames).mpr ⟨w_running, w_runnable, w_alone, w_named, w_hears, w_ripe, w_room, w_tables⟩
theorem atStart : AtStart classFile x code maxLocals ret World_1 tables_1 room_1 Calls_1 rest_1 Pre_1 launch0 p0 e0 about1 theMethod args0 below0 :=
  ⟨lists_1, trivial, launch0.admits_env _ _ _, launch0.least_env, fairChoices_fair.cas, fairChoices_fair.clock, w_frames, w_args, w_heap, w_applies, ⟨w_consts, trivial⟩, w_rest, w_case⟩
end start1
theorem witness_1 : WitnessClaimed_1 := ⟨start1.p0, start1.e0, start1.about1, start1.theMethod, start1.args0, start1.below0, start1.atStart⟩
end Jvm.Pilot.@@N@@

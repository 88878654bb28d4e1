import JvmDerived
import JvmDerived.Pilot.@@N@@Statement
import JvmDerived.Pilot.@@N@@Code
set_option linter.unusedVariables false
set_option linter.unusedSimpArgs false
@@BLOCK:TracedD.lean.txt@@
namespace Jvm.Pilot.@@N@@
open Jvm Jvm.ClassFile Sem Op Lib Jvm.Free Jvm.Stand Jvm.LawKit Jvm.RoadKit Bundle Jvm.Pilot.@@N@@.Jvm.D
/-! ## the run in continuation form: 'Go G T g': from T with the top frame g the run ends as G says -/
def Go (p : Program) (e : Env) (below : List Frame) (G : State → Outcome → Prop) (T : State) (g : JFrame) : Prop :=
  ∃ s₂ o, Steps p.tables e below (T.setTop g) s₂ ∧ s₂.status = .running ∧ Ended s₂ below o ∧ G s₂ o
/-- what a contract asks of the end -/
def FinQ (s : State) (Q : Option Value → Heap → List Loc → Prop) (kc ks : Nat) (U' : State) (o : Outcome) : Prop :=
  ∃ v L, o = .returned v ∧ Q v U'.heap L ∧ FrameEnd s o U' L kc ks
/-- a body's contract, as backOf takes it -/
def Met1 (l : Launch) (Z : State) (y : MethodName) (bytes : ByteArray) (maxL : Nat) (rt : Option FieldType) (rm : Room) (as : Array Value) (h0 : Heap) (Q : Option Value → Heap → List Loc → Prop) : Prop :=
  ∀ ws : List Jvm.Cond, MetFree l y (head1 (Jvm.Cond.code y bytes maxL rt :: ws) rm) (fun a U => a = as ∧ Z.Warmed39 U.vm ∧ U.heap = h0) (fun _ _ _ _ _ => True)
    (fun _ U o U' => ∃ v L, o = .returned v ∧ Q v U'.heap L ∧ FrameEnd U o U' L rm.cells rm.slots)
section OwnGo
variable {p : Program} {l : Launch} {e : Env} {R : Room} {s : State} {m : MethodId} {args : Array Value} {below : List Frame} {meth : Method} {c : Code} {T T' : State} {locs : List Loc} {cells slots : Nat} {G : State → Outcome → Prop} {Ls : Array Slot} {st : List Value} {pc : Nat} {bs : ByteArray} {Z : State} {a0 : Array Value} {h : Heap} {g g' : JFrame}
theorem Go.by (q : ∀ t, Steps p.tables e below (T'.setTop g') t → Steps p.tables e below (T.setTop g) t) (k : Go p e below G T' g') : Go p e below G T g := by
  obtain ⟨s₂, o, h1, h2⟩ := k
  exact ⟨s₂, o, q _ h1, h2⟩
theorem own_met_of {Z : State} {y : MethodName} {bytes : ByteArray} {maxL : Nat} {rt : Option FieldType} {rm : Room} {as : Array Value} {h0 : Heap} {Q : Option Value → Heap → List Loc → Prop} {Ls0 : Array Slot} (hpl : plainFor y = true) (ef : ∀ m, entryFrame m as maxL = mkF m 0 Ls0 [])
    (body : ∀ (p : Program) (e : Env) (s : State) (m : MethodId) (below : List Frame) (meth : Method) (c : Code) (s₁ : State), Stand p l e rm s m as below meth c s₁ [] 0 0 → p.tables.exec = Jvm.exec → c.code = bytes → c.maxLocals = maxL → Z.Warmed39 s.vm → s.vm.findClass y.cls = some m.cls → meth.name = y.name → meth.sig.returnType = rt → meth.locks = false → s₁.heap = h0 →
      Go p e below (FinQ s Q rm.cells rm.slots) s₁ (mkF m 0 Ls0 [])) : Met1 l Z y bytes maxL rt rm as h0 Q := by
  intro ws
  refine MetFree.of_bodySF hpl hisR ?_
  intro p e s m args below meth c s₁ Bd hml0 hP hK
  obtain ⟨rfl, hZ, hh⟩ := hP
  have k := body p e s m below meth c s₁ (Stand.of_body Bd) Bd.exec Bd.bytes hml0 hZ (findClass_of_methodNamed Bd.named) (name_of_methodNamed Bd.named Bd.method).1 Bd.returns Bd.notSynchronized (by rw [← hh, Bd.state]; rfl)
  rw [← ef m] at k
  exact k
theorem own_leave {Q : Option Value → Heap → List Loc → Prop} {kc ks : Nat} {v : Option Value} (X : Stand p l e R s m args below meth c T locs cells slots) (hv : meth.sig.returnType = none → v = none) (hlk : meth.locks = false) (hc : cells ≤ kc) (hs : slots ≤ ks) (hQ : Q v T.heap locs)
    (k : ∀ fs, (∀ (f : JFrame) (acts : List Action), f.method = m → f.locked = none → f.entered = [] → (doReturn e (T.setTop f) acts v).1 = T.setFrames fs) → Steps p.tables e below (T.setTop g) (T.setFrames fs)) : Go p e below (FinQ s Q kc ks) T g := by
  obtain ⟨fs, hr, hrun, hended, hW, hsame⟩ := X.leave (v := v) hv hlk
  exact ⟨_, _, k fs hr, hrun, hended, _, _, rfl, hQ, ⟨_, rfl⟩, hW, hsame.mono hc hs⟩
theorem own_retI {Q : Option Value → Heap → List Loc → Prop} {kc ks : Nat} {z : Int32} (X : Stand p l e R s m args below meth c T locs cells slots) (hx : p.tables.exec = Jvm.exec) (hby : c.code = bs) (hret : meth.sig.returnType = some .int) (hlk : meth.locks = false) (hd : decode bs pc = .ok (.ireturn, 1)) (hc : cells ≤ kc) (hs : slots ≤ ks) (hQ : Q (some (.int z)) T.heap locs) : Go p e below (FinQ s Q kc ks) T (mkF m pc Ls (.int z :: st)) := by
  refine own_leave X (fun q => by rw [hret] at q; cases q) hlk hc hs hQ fun fs hr => ?_
  exact retOut X hx hret rfl (Or.inl ⟨rfl, Or.inl rfl, z, rfl⟩) (hb hby hd) hr
theorem own_retN {Q : Option Value → Heap → List Loc → Prop} {kc ks : Nat} {z z' : Int32} {t : FieldType} (X : Stand p l e R s m args below meth c T locs cells slots) (hx : p.tables.exec = Jvm.exec) (hby : c.code = bs) (hret : meth.sig.returnType = some t) (hlk : meth.locks = false) (ht : t = .boolean ∨ t = .byte ∨ t = .char ∨ t = .short) (hd : decode bs pc = .ok (.ireturn, 1)) (hc : cells ≤ kc) (hs : slots ≤ ks) (hn : nar t z = z') (hQ : Q (some (.int z')) T.heap locs) : Go p e below (FinQ s Q kc ks) T (mkF m pc Ls (.int z :: st)) := by
  subst hn
  refine own_leave X (fun q => by rw [hret] at q; cases q) hlk hc hs hQ fun fs hr => ?_
  exact retN X hx hret ht (hb hby hd) hr
theorem own_retA {Q : Option Value → Heap → List Loc → Prop} {kc ks : Nat} {w : Value} {t : FieldType} (X : Stand p l e R s m args below meth c T locs cells slots) (hx : p.tables.exec = Jvm.exec) (hby : c.code = bs) (hret : meth.sig.returnType = some t) (hlk : meth.locks = false) (ht : t.isReference = true) (hw : w.isRef = true) (hn : narrow t w = w) (hd : decode bs pc = .ok (.areturn, 1)) (hc : cells ≤ kc) (hs : slots ≤ ks) (hQ : Q (some w) T.heap locs) : Go p e below (FinQ s Q kc ks) T (mkF m pc Ls (w :: st)) := by
  refine own_leave X (fun q => by rw [hret] at q; cases q) hlk hc hs hQ fun fs hr => ?_
  exact retOut X hx hret hn (Or.inr (Or.inr (Or.inr (Or.inr ⟨rfl, ht, hw⟩)))) (hb hby hd) hr
theorem own_ret {Q : Option Value → Heap → List Loc → Prop} {kc ks : Nat} (X : Stand p l e R s m args below meth c T locs cells slots) (hx : p.tables.exec = Jvm.exec) (hby : c.code = bs) (hret : meth.sig.returnType = none) (hlk : meth.locks = false) (hd : decode bs pc = .ok (.return_, 1)) (hc : cells ≤ kc) (hs : slots ≤ ks) (hQ : Q none T.heap locs) : Go p e below (FinQ s Q kc ks) T (mkF m pc Ls []) := by
  refine own_leave X (fun _ => rfl) hlk hc hs hQ fun fs hr => ?_
  exact X.returnOut hx hret (hb hby hd) hr
theorem own_iload (X : Stand p l e R s m args below meth c T locs cells slots) (hx : p.tables.exec = Jvm.exec) (hby : c.code = bs) {n : Nat} (v : Int32) (hd : decode bs pc = .ok (.iload n, 2)) (hl : Ls[n]? = some (.val (.int v))) (pc' : Nat) (hp : pc + 2 = pc') (k : Go p e below G T (mkF m pc' Ls (.int v :: st))) : Go p e below G T (mkF m pc Ls st) := by
  subst hp
  exact Go.by (fun t q => XS.iload X.here hx rfl (hb hby hd) hl q) k
theorem own_iloadN (X : Stand p l e R s m args below meth c T locs cells slots) (hx : p.tables.exec = Jvm.exec) (hby : c.code = bs) {n : Fin 4} (v : Int32) (hd : decode bs pc = .ok (.iload_n n, 1)) (hl : Ls[n.val]? = some (.val (.int v))) (pc' : Nat) (hp : pc + 1 = pc') (k : Go p e below G T (mkF m pc' Ls (.int v :: st))) : Go p e below G T (mkF m pc Ls st) := by
  subst hp
  exact Go.by (fun t q => XS.iloadN X.here hx rfl (hb hby hd) hl q) k
theorem own_istore (X : Stand p l e R s m args below meth c T locs cells slots) (hx : p.tables.exec = Jvm.exec) (hby : c.code = bs) {n : Nat} {x x' : Int32} (hd : decode bs pc = .ok (.istore n, 2)) (ex : x = x') {l' : Array Slot} (hl : storeLocals Ls n (.int x') = some l') (pc' : Nat) (hp : pc + 2 = pc') (k : Go p e below G T (mkF m pc' l' st)) : Go p e below G T (mkF m pc Ls (.int x :: st)) := by
  subst hp
  subst ex
  exact Go.by (fun t q => XS.istore X.here hx rfl (hb hby hd) rfl hl q) k
theorem own_istoreN (X : Stand p l e R s m args below meth c T locs cells slots) (hx : p.tables.exec = Jvm.exec) (hby : c.code = bs) {n : Fin 4} {x x' : Int32} (hd : decode bs pc = .ok (.istore_n n, 1)) (ex : x = x') {l' : Array Slot} (hl : storeLocals Ls n.val (.int x') = some l') (pc' : Nat) (hp : pc + 1 = pc') (k : Go p e below G T (mkF m pc' l' st)) : Go p e below G T (mkF m pc Ls (.int x :: st)) := by
  subst hp
  subst ex
  exact Go.by (fun t q => XS.istoreN X.here hx rfl (hb hby hd) rfl hl q) k
theorem own_aload (X : Stand p l e R s m args below meth c T locs cells slots) (hx : p.tables.exec = Jvm.exec) (hby : c.code = bs) {n : Nat} (v : Value) (hd : decode bs pc = .ok (.aload n, 2)) (hl : Ls[n]? = some (.val v)) (hv : v.isRef = true) (pc' : Nat) (hp : pc + 2 = pc') (k : Go p e below G T (mkF m pc' Ls (v :: st))) : Go p e below G T (mkF m pc Ls st) := by
  subst hp
  exact Go.by (fun t q => XS.aload X.here hx rfl (hb hby hd) hl hv q) k
theorem own_aloadN (X : Stand p l e R s m args below meth c T locs cells slots) (hx : p.tables.exec = Jvm.exec) (hby : c.code = bs) {n : Fin 4} (v : Value) (hd : decode bs pc = .ok (.aload_n n, 1)) (hl : Ls[n.val]? = some (.val v)) (hv : v.isRef = true) (pc' : Nat) (hp : pc + 1 = pc') (k : Go p e below G T (mkF m pc' Ls (v :: st))) : Go p e below G T (mkF m pc Ls st) := by
  subst hp
  exact Go.by (fun t q => XS.aloadN X.here hx rfl (hb hby hd) hl hv q) k
theorem own_astore (X : Stand p l e R s m args below meth c T locs cells slots) (hx : p.tables.exec = Jvm.exec) (hby : c.code = bs) {n : Nat} {x : Value} (hd : decode bs pc = .ok (.astore n, 2)) (hv : x.isRef = true) {l' : Array Slot} (hl : storeLocals Ls n x = some l') (pc' : Nat) (hp : pc + 2 = pc') (k : Go p e below G T (mkF m pc' l' st)) : Go p e below G T (mkF m pc Ls (x :: st)) := by
  subst hp
  exact Go.by (fun t q => XS.astore X.here hx rfl (hb hby hd) rfl hv hl q) k
theorem own_astoreN (X : Stand p l e R s m args below meth c T locs cells slots) (hx : p.tables.exec = Jvm.exec) (hby : c.code = bs) {n : Fin 4} {x : Value} (hd : decode bs pc = .ok (.astore_n n, 1)) (hv : x.isRef = true) {l' : Array Slot} (hl : storeLocals Ls n.val x = some l') (pc' : Nat) (hp : pc + 1 = pc') (k : Go p e below G T (mkF m pc' l' st)) : Go p e below G T (mkF m pc Ls (x :: st)) := by
  subst hp
  exact Go.by (fun t q => XS.astoreN X.here hx rfl (hb hby hd) rfl hv hl q) k
theorem own_iconst (X : Stand p l e R s m args below meth c T locs cells slots) (hx : p.tables.exec = Jvm.exec) (hby : c.code = bs) {i : Int} (v : Int32) (hd : decode bs pc = .ok (.iconst i, 1)) (hv : Int32.ofInt i = v) (pc' : Nat) (hp : pc + 1 = pc') (k : Go p e below G T (mkF m pc' Ls (.int v :: st))) : Go p e below G T (mkF m pc Ls st) := by
  subst hp
  subst hv
  exact Go.by (fun t q => XS.iconst X.here hx rfl (hb hby hd) q) k
theorem own_bipush (X : Stand p l e R s m args below meth c T locs cells slots) (hx : p.tables.exec = Jvm.exec) (hby : c.code = bs) {i : Int} (v : Int32) (hd : decode bs pc = .ok (.bipush i, 2)) (hv : (Int8.ofInt i).toInt32 = v) (pc' : Nat) (hp : pc + 2 = pc') (k : Go p e below G T (mkF m pc' Ls (.int v :: st))) : Go p e below G T (mkF m pc Ls st) := by
  subst hp
  subst hv
  exact Go.by (fun t q => XS.bipush X.here hx rfl (hb hby hd) q) k
theorem own_sipush (X : Stand p l e R s m args below meth c T locs cells slots) (hx : p.tables.exec = Jvm.exec) (hby : c.code = bs) {i : Int} (v : Int32) (hd : decode bs pc = .ok (.sipush i, 3)) (hv : (Int16.ofInt i).toInt32 = v) (pc' : Nat) (hp : pc + 3 = pc') (k : Go p e below G T (mkF m pc' Ls (.int v :: st))) : Go p e below G T (mkF m pc Ls st) := by
  subst hp
  subst hv
  exact Go.by (fun t q => XS.sipush X.here hx rfl (hb hby hd) q) k
theorem own_aconstNull (X : Stand p l e R s m args below meth c T locs cells slots) (hx : p.tables.exec = Jvm.exec) (hby : c.code = bs)  (hd : decode bs pc = .ok (.aconst_null, 1))  (pc' : Nat) (hp : pc + 1 = pc') (k : Go p e below G T (mkF m pc' Ls (.null :: st))) : Go p e below G T (mkF m pc Ls st) := by
  subst hp
  exact Go.by (fun t q => XS.aconstNull X.here hx rfl (hb hby hd) q) k
theorem own_iadd (X : Stand p l e R s m args below meth c T locs cells slots) (hx : p.tables.exec = Jvm.exec) (hby : c.code = bs) {x y : Int32} (hd : decode bs pc = .ok (.iadd, 1))  (pc' : Nat) (hp : pc + 1 = pc') (k : Go p e below G T (mkF m pc' Ls (.int (x + y) :: st))) : Go p e below G T (mkF m pc Ls (.int y :: .int x :: st)) := by
  subst hp
  exact Go.by (fun t q => XS.iadd X.here hx rfl (hb hby hd) rfl q) k
theorem own_isub (X : Stand p l e R s m args below meth c T locs cells slots) (hx : p.tables.exec = Jvm.exec) (hby : c.code = bs) {x y : Int32} (hd : decode bs pc = .ok (.isub, 1))  (pc' : Nat) (hp : pc + 1 = pc') (k : Go p e below G T (mkF m pc' Ls (.int (x - y) :: st))) : Go p e below G T (mkF m pc Ls (.int y :: .int x :: st)) := by
  subst hp
  exact Go.by (fun t q => XS.isub X.here hx rfl (hb hby hd) rfl q) k
theorem own_iand (X : Stand p l e R s m args below meth c T locs cells slots) (hx : p.tables.exec = Jvm.exec) (hby : c.code = bs) {x y : Int32} (hd : decode bs pc = .ok (.iand, 1))  (pc' : Nat) (hp : pc + 1 = pc') (k : Go p e below G T (mkF m pc' Ls (.int (x &&& y) :: st))) : Go p e below G T (mkF m pc Ls (.int y :: .int x :: st)) := by
  subst hp
  exact Go.by (fun t q => XS.iand X.here hx rfl (hb hby hd) rfl q) k
theorem own_iushr (X : Stand p l e R s m args below meth c T locs cells slots) (hx : p.tables.exec = Jvm.exec) (hby : c.code = bs) {x y : Int32} (hd : decode bs pc = .ok (.iushr, 1))  (pc' : Nat) (hp : pc + 1 = pc') (k : Go p e below G T (mkF m pc' Ls (.int ((x.toUInt32 >>> (y &&& 31).toUInt32).toInt32) :: st))) : Go p e below G T (mkF m pc Ls (.int y :: .int x :: st)) := by
  subst hp
  exact Go.by (fun t q => XS.iushr X.here hx rfl (hb hby hd) rfl q) k
theorem own_i2b (X : Stand p l e R s m args below meth c T locs cells slots) (hx : p.tables.exec = Jvm.exec) (hby : c.code = bs) {x : Int32} (hd : decode bs pc = .ok (.i2b, 1))  (pc' : Nat) (hp : pc + 1 = pc') (k : Go p e below G T (mkF m pc' Ls (.int (x.toInt8.toInt32) :: st))) : Go p e below G T (mkF m pc Ls (.int x :: st)) := by
  subst hp
  exact Go.by (fun t q => XS.i2b X.here hx rfl (hb hby hd) rfl q) k
theorem own_i2c (X : Stand p l e R s m args below meth c T locs cells slots) (hx : p.tables.exec = Jvm.exec) (hby : c.code = bs) {x : Int32} (hd : decode bs pc = .ok (.i2c, 1))  (pc' : Nat) (hp : pc + 1 = pc') (k : Go p e below G T (mkF m pc' Ls (.int (x.toUInt32.toUInt16.toUInt32.toInt32) :: st))) : Go p e below G T (mkF m pc Ls (.int x :: st)) := by
  subst hp
  exact Go.by (fun t q => XS.i2c X.here hx rfl (hb hby hd) rfl q) k
theorem own_iinc (X : Stand p l e R s m args below meth c T locs cells slots) (hx : p.tables.exec = Jvm.exec) (hby : c.code = bs) {n : Nat} {cst : Int} {x x' : Int32} (hd : decode bs pc = .ok (.iinc n cst, 3)) (hl : Ls[n]? = some (.val (.int x))) (ex : x + Int32.ofInt cst = x') {l' : Array Slot} (hl' : storeLocals Ls n (.int x') = some l') (pc' : Nat) (hp : pc + 3 = pc') (k : Go p e below G T (mkF m pc' l' st)) : Go p e below G T (mkF m pc Ls st) := by
  subst hp
  subst ex
  exact Go.by (fun t q => XS.iinc X.here hx rfl (hb hby hd) hl hl' q) k
theorem own_dup (X : Stand p l e R s m args below meth c T locs cells slots) (hx : p.tables.exec = Jvm.exec) (hby : c.code = bs) {x : Value} (hd : decode bs pc = .ok (.dup, 1)) (hc : x.category = 1) (pc' : Nat) (hp : pc + 1 = pc') (k : Go p e below G T (mkF m pc' Ls (x :: x :: st))) : Go p e below G T (mkF m pc Ls (x :: st)) := by
  subst hp
  exact Go.by (fun t q => XS.dup X.here hx rfl (hb hby hd) rfl hc q) k
theorem own_pop (X : Stand p l e R s m args below meth c T locs cells slots) (hx : p.tables.exec = Jvm.exec) (hby : c.code = bs) {x : Value} (hd : decode bs pc = .ok (.pop, 1)) (hc : x.category = 1) (pc' : Nat) (hp : pc + 1 = pc') (k : Go p e below G T (mkF m pc' Ls st)) : Go p e below G T (mkF m pc Ls (x :: st)) := by
  subst hp
  exact Go.by (fun t q => XS.pop X.here hx rfl (hb hby hd) rfl hc q) k
theorem own_goto (X : Stand p l e R s m args below meth c T locs cells slots) (hx : p.tables.exec = Jvm.exec) (hby : c.code = bs) {o : Int} (hd : decode bs pc = .ok (.goto o, 3)) (pc' : Nat) (hp : 0 ≤ (pc : Int) + o ∧ ((pc : Int) + o).toNat = pc') (k : Go p e below G T (mkF m pc' Ls st)) : Go p e below G T (mkF m pc Ls st) :=
  Go.by (fun t q => XS.goto X.here hx rfl rfl (hb hby hd) hp.1 hp.2 q) k
theorem own_top {v v' : Value} (q : v = v') (k : Go p e below G T (mkF m pc Ls (v' :: st))) : Go p e below G T (mkF m pc Ls (v :: st)) := q ▸ k
theorem own_icmp_eq (X : Stand p l e R s m args below meth c T locs cells slots) (hx : p.tables.exec = Jvm.exec) (hby : c.code = bs) {o : Int} {x y : Int32} (hd : decode bs pc = .ok (.if_icmp .eq o, 3)) (pT pF : Nat) (hp : 0 ≤ (pc : Int) + o ∧ ((pc : Int) + o).toNat = pT) (hpF : pc + 3 = pF) (kT : x = y → Go p e below G T (mkF m pT Ls st)) (kF : ¬ x = y → Go p e below G T (mkF m pF Ls st)) : Go p e below G T (mkF m pc Ls (.int y :: .int x :: st)) := by
  subst hpF
  by_cases q0 : x = y
  · have q := q0
    exact Go.by (fun t r => XS.icmpYes X.here hx rfl rfl (hb hby hd) rfl (teq q).1 hp.1 hp.2 r) (kT q0)
  · have q : ¬ x = y := by first | exact q0 | exact Classical.not_not.mp q0
    exact Go.by (fun t r => XS.icmpNo X.here hx rfl (hb hby hd) rfl (feq q).1 r) (kF q)
theorem own_if_eq (X : Stand p l e R s m args below meth c T locs cells slots) (hx : p.tables.exec = Jvm.exec) (hby : c.code = bs) {o : Int} {x : Int32} (hd : decode bs pc = .ok (.ifCond .eq o, 3)) (pT pF : Nat) (hp : 0 ≤ (pc : Int) + o ∧ ((pc : Int) + o).toNat = pT) (hpF : pc + 3 = pF) (kT : x = (0 : Int32) → Go p e below G T (mkF m pT Ls st)) (kF : ¬ x = (0 : Int32) → Go p e below G T (mkF m pF Ls st)) : Go p e below G T (mkF m pc Ls (.int x :: st)) := by
  subst hpF
  by_cases q0 : x = (0 : Int32)
  · have q := q0
    exact Go.by (fun t r => XS.ifYes X.here hx rfl rfl (hb hby hd) rfl ((if0 _ _).trans (teq q).1) hp.1 hp.2 r) (kT q0)
  · have q : ¬ x = (0 : Int32) := by first | exact q0 | exact Classical.not_not.mp q0
    exact Go.by (fun t r => XS.ifNo X.here hx rfl (hb hby hd) rfl ((if0 _ _).trans (feq q).1) r) (kF q)
theorem own_icmp_ne (X : Stand p l e R s m args below meth c T locs cells slots) (hx : p.tables.exec = Jvm.exec) (hby : c.code = bs) {o : Int} {x y : Int32} (hd : decode bs pc = .ok (.if_icmp .ne o, 3)) (pT pF : Nat) (hp : 0 ≤ (pc : Int) + o ∧ ((pc : Int) + o).toNat = pT) (hpF : pc + 3 = pF) (kT : ¬ x = y → Go p e below G T (mkF m pT Ls st)) (kF : x = y → Go p e below G T (mkF m pF Ls st)) : Go p e below G T (mkF m pc Ls (.int y :: .int x :: st)) := by
  subst hpF
  by_cases q0 : ¬ x = y
  · have q := q0
    exact Go.by (fun t r => XS.icmpYes X.here hx rfl rfl (hb hby hd) rfl (feq q).2 hp.1 hp.2 r) (kT q0)
  · have q : x = y := by first | exact q0 | exact Classical.not_not.mp q0
    exact Go.by (fun t r => XS.icmpNo X.here hx rfl (hb hby hd) rfl (teq q).2 r) (kF q)
theorem own_if_ne (X : Stand p l e R s m args below meth c T locs cells slots) (hx : p.tables.exec = Jvm.exec) (hby : c.code = bs) {o : Int} {x : Int32} (hd : decode bs pc = .ok (.ifCond .ne o, 3)) (pT pF : Nat) (hp : 0 ≤ (pc : Int) + o ∧ ((pc : Int) + o).toNat = pT) (hpF : pc + 3 = pF) (kT : ¬ x = (0 : Int32) → Go p e below G T (mkF m pT Ls st)) (kF : x = (0 : Int32) → Go p e below G T (mkF m pF Ls st)) : Go p e below G T (mkF m pc Ls (.int x :: st)) := by
  subst hpF
  by_cases q0 : ¬ x = (0 : Int32)
  · have q := q0
    exact Go.by (fun t r => XS.ifYes X.here hx rfl rfl (hb hby hd) rfl ((if0 _ _).trans (feq q).2) hp.1 hp.2 r) (kT q0)
  · have q : x = (0 : Int32) := by first | exact q0 | exact Classical.not_not.mp q0
    exact Go.by (fun t r => XS.ifNo X.here hx rfl (hb hby hd) rfl ((if0 _ _).trans (teq q).2) r) (kF q)
theorem own_icmp_lt (X : Stand p l e R s m args below meth c T locs cells slots) (hx : p.tables.exec = Jvm.exec) (hby : c.code = bs) {o : Int} {x y : Int32} (hd : decode bs pc = .ok (.if_icmp .lt o, 3)) (pT pF : Nat) (hp : 0 ≤ (pc : Int) + o ∧ ((pc : Int) + o).toNat = pT) (hpF : pc + 3 = pF) (kT : x < y → Go p e below G T (mkF m pT Ls st)) (kF : ¬ x < y → Go p e below G T (mkF m pF Ls st)) : Go p e below G T (mkF m pc Ls (.int y :: .int x :: st)) := by
  subst hpF
  by_cases q0 : x < y
  · have q := q0
    exact Go.by (fun t r => XS.icmpYes X.here hx rfl rfl (hb hby hd) rfl (tlt q).1 hp.1 hp.2 r) (kT q0)
  · have q : ¬ x < y := by first | exact q0 | exact Classical.not_not.mp q0
    exact Go.by (fun t r => XS.icmpNo X.here hx rfl (hb hby hd) rfl (flt q).1 r) (kF q)
theorem own_icmp_ge (X : Stand p l e R s m args below meth c T locs cells slots) (hx : p.tables.exec = Jvm.exec) (hby : c.code = bs) {o : Int} {x y : Int32} (hd : decode bs pc = .ok (.if_icmp .ge o, 3)) (pT pF : Nat) (hp : 0 ≤ (pc : Int) + o ∧ ((pc : Int) + o).toNat = pT) (hpF : pc + 3 = pF) (kT : ¬ x < y → Go p e below G T (mkF m pT Ls st)) (kF : x < y → Go p e below G T (mkF m pF Ls st)) : Go p e below G T (mkF m pc Ls (.int y :: .int x :: st)) := by
  subst hpF
  by_cases q0 : ¬ x < y
  · have q := q0
    exact Go.by (fun t r => XS.icmpYes X.here hx rfl rfl (hb hby hd) rfl (flt q).2.1 hp.1 hp.2 r) (kT q0)
  · have q : x < y := by first | exact q0 | exact Classical.not_not.mp q0
    exact Go.by (fun t r => XS.icmpNo X.here hx rfl (hb hby hd) rfl (tlt q).2.1 r) (kF q)
theorem own_icmp_gt (X : Stand p l e R s m args below meth c T locs cells slots) (hx : p.tables.exec = Jvm.exec) (hby : c.code = bs) {o : Int} {x y : Int32} (hd : decode bs pc = .ok (.if_icmp .gt o, 3)) (pT pF : Nat) (hp : 0 ≤ (pc : Int) + o ∧ ((pc : Int) + o).toNat = pT) (hpF : pc + 3 = pF) (kT : y < x → Go p e below G T (mkF m pT Ls st)) (kF : ¬ y < x → Go p e below G T (mkF m pF Ls st)) : Go p e below G T (mkF m pc Ls (.int y :: .int x :: st)) := by
  subst hpF
  by_cases q0 : y < x
  · have q := q0
    exact Go.by (fun t r => XS.icmpYes X.here hx rfl rfl (hb hby hd) rfl (tlt q).2.2.1 hp.1 hp.2 r) (kT q0)
  · have q : ¬ y < x := by first | exact q0 | exact Classical.not_not.mp q0
    exact Go.by (fun t r => XS.icmpNo X.here hx rfl (hb hby hd) rfl (flt q).2.2.1 r) (kF q)
theorem own_icmp_le (X : Stand p l e R s m args below meth c T locs cells slots) (hx : p.tables.exec = Jvm.exec) (hby : c.code = bs) {o : Int} {x y : Int32} (hd : decode bs pc = .ok (.if_icmp .le o, 3)) (pT pF : Nat) (hp : 0 ≤ (pc : Int) + o ∧ ((pc : Int) + o).toNat = pT) (hpF : pc + 3 = pF) (kT : ¬ y < x → Go p e below G T (mkF m pT Ls st)) (kF : y < x → Go p e below G T (mkF m pF Ls st)) : Go p e below G T (mkF m pc Ls (.int y :: .int x :: st)) := by
  subst hpF
  by_cases q0 : ¬ y < x
  · have q := q0
    exact Go.by (fun t r => XS.icmpYes X.here hx rfl rfl (hb hby hd) rfl (flt q).2.2.2 hp.1 hp.2 r) (kT q0)
  · have q : y < x := by first | exact q0 | exact Classical.not_not.mp q0
    exact Go.by (fun t r => XS.icmpNo X.here hx rfl (hb hby hd) rfl (tlt q).2.2.2 r) (kF q)
theorem own_ifnullY (X : Stand p l e R s m args below meth c T locs cells slots) (hx : p.tables.exec = Jvm.exec) (hby : c.code = bs) {o : Int}  (hd : decode bs pc = .ok (.ifnull o, 3)) (pc' : Nat) (hp : 0 ≤ (pc : Int) + o ∧ ((pc : Int) + o).toNat = pc') (k : Go p e below G T (mkF m pc' Ls st)) : Go p e below G T (mkF m pc Ls (.null :: st)) :=
  Go.by (fun t q => XS.ifnullYes X.here hx rfl rfl (hb hby hd) rfl hp.1 hp.2 q) k
theorem own_ifnullN (X : Stand p l e R s m args below meth c T locs cells slots) (hx : p.tables.exec = Jvm.exec) (hby : c.code = bs) {o : Int} {b : Addr} (hd : decode bs pc = .ok (.ifnull o, 3)) (pc' : Nat) (hp : pc + 3 = pc') (k : Go p e below G T (mkF m pc' Ls st)) : Go p e below G T (mkF m pc Ls (.ref b :: st)) := by
  subst hp
  exact Go.by (fun t q => XS.ifnullNo X.here hx rfl (hb hby hd) rfl q) k
theorem own_ifnonnullY (X : Stand p l e R s m args below meth c T locs cells slots) (hx : p.tables.exec = Jvm.exec) (hby : c.code = bs) {o : Int} {b : Addr} (hd : decode bs pc = .ok (.ifnonnull o, 3)) (pc' : Nat) (hp : 0 ≤ (pc : Int) + o ∧ ((pc : Int) + o).toNat = pc') (k : Go p e below G T (mkF m pc' Ls st)) : Go p e below G T (mkF m pc Ls (.ref b :: st)) :=
  Go.by (fun t q => XS.ifnonnullYes X.here hx rfl rfl (hb hby hd) rfl hp.1 hp.2 q) k
theorem own_callS (X : Stand p l e R s m args below meth c T locs cells slots) (hx : p.tables.exec = Jvm.exec) (hby : c.code = bs) (hZ : Z.Warmed39 s.vm) {own : String} {idx : Nat} {y : MethodName} {yb : ByteArray} {yml : Nat} {yrt : Option FieldType} {rm : Room} {as : Array Value} {Qc : Option Value → Heap → List Loc → Prop} (argsL : List Value) (has : argsL.toArray = as) (hown : s.vm.findClass own = some m.cls) (w1 : (Jvm.Cond.methodLink own idx y).before a0 Z = true) (w2 : (Jvm.Cond.static y).before a0 Z = true) (w3 : (Jvm.Cond.initialized y.cls).before a0 Z = true) (w4 : (Jvm.Cond.code y yb yml yrt).before a0 Z = true) (hy : y.cls ≠ "java/lang/invoke/MethodHandle" ∧ y.cls ≠ "java/lang/invoke/VarHandle") (hd : decode bs pc = .ok (.invokestatic idx, 3)) (hM : Met1 l Z y yb yml yrt rm as h Qc) (eT : T.heap = h) {ps : List FieldType} {pr : Option FieldType} (hpd : parseMethodDescriptor y.desc = some ⟨ps, pr⟩) (hlen : argsL.length = ps.length) (hml : Ls.size = c.maxLocals) (hf : rm.frames + 1 ≤ R.frames) (W : Nat) (hW : (st.map fun v => v.category).sum = W) (hl : W + (yml + 11) + rm.locals ≤ R.locals) (hcl : cells + rm.cells ≤ R.cells) (hsl : slots + rm.slots ≤ R.slots) (pc' : Nat) (hp : pc + 3 = pc') (k : ∀ (T' : State) (L : List Loc) (v : Option Value), Stand p l e R s m args below meth c T' (locs ++ L) (cells + rm.cells) (slots + rm.slots) → Qc v T'.heap L → Go p e below G T' (mkF m pc' Ls (v.toList ++ st))) : Go p e below G T (mkF m pc Ls (argsL.reverse ++ st)) := by
  subst has
  subst hp
  obtain ⟨v, vm₁, ⟨T1, L1, k1, n1⟩, -, X1, ⟨Lc, hQ, l1, y1, z1⟩, st1⟩ := Jvm.LawKit.callS X hx (y := y) hown (mvT hZ w1) (mvT hZ w2) (mvT hZ w3) (mvT hZ w4) hy (backOf (W := W) (hM []) hZ w4 w3 hf hl) (g := mkF m pc Ls (argsL.reverse ++ st)) rfl hml (argsL := argsL) (rest := st) (lenOf hpd hlen) rfl (by show 2 * 0 + _ ≤ _; omega) (hb hby hd) (fun _ _ => ⟨rfl, eT, hcl, hsl⟩)
  dsimp only [Pt.U, Pt.locs, Pt.cells, Pt.slots] at X1 l1 y1 z1 st1 hQ
  subst l1 y1 z1
  exact Go.by (fun t q => st1 t q) (k T1 Lc v X1 hQ)
theorem own_callC (X : Stand p l e R s m args below meth c T locs cells slots) (hx : p.tables.exec = Jvm.exec) (hby : c.code = bs) (hZ : Z.Warmed39 s.vm) {own : String} {idx : Nat} {y : MethodName} {yb : ByteArray} {yml : Nat} {rm : Room} {as : Array Value} {Qc : Option Value → Heap → List Loc → Prop} {a : Addr} (argsL : List Value) (has : (.ref a :: argsL).toArray = as) (hy1 : y.name = "<init>") (hown : s.vm.findClass own = some m.cls) (w1 : (Jvm.Cond.methodLink own idx y).before a0 Z = true) (w2 : (Jvm.Cond.instanceMethod y).before a0 Z = true) (w3 : (Jvm.Cond.initialized y.cls).before a0 Z = true) (w4 : (Jvm.Cond.code y yb yml none).before a0 Z = true) (hy : y.cls ≠ "java/lang/invoke/MethodHandle" ∧ y.cls ≠ "java/lang/invoke/VarHandle") (hd : decode bs pc = .ok (.invokespecial idx, 3)) (hM : Met1 l Z y yb yml none rm as h Qc) (eT : T.heap = h) {ps : List FieldType} {pr : Option FieldType} (hpd : parseMethodDescriptor y.desc = some ⟨ps, pr⟩) (hlen : argsL.length = ps.length) (hml : Ls.size = c.maxLocals) (hf : rm.frames + 1 ≤ R.frames) (W : Nat) (hW : (st.map fun v => v.category).sum = W) (hl : W + (yml + 11) + rm.locals ≤ R.locals) (hcl : cells + rm.cells ≤ R.cells) (hsl : slots + rm.slots ≤ R.slots) (pc' : Nat) (hp : pc + 3 = pc') (k : ∀ (T' : State) (L : List Loc) (v : Option Value), Stand p l e R s m args below meth c T' (locs ++ L) (cells + rm.cells) (slots + rm.slots) → Qc v T'.heap L → Go p e below G T' (mkF m pc' Ls (v.toList ++ st))) : Go p e below G T (mkF m pc Ls (argsL.reverse ++ .ref a :: st)) := by
  subst has
  subst hp
  obtain ⟨v, vm₁, ⟨T1, L1, k1, n1⟩, -, X1, ⟨Lc, hQ, l1, y1, z1⟩, st1⟩ := X.specialBack hx (y := y) hy1 hown (mvT hZ w1) (mvT hZ w2) (mvT hZ w4) hy (backOf (W := W) (hM []) hZ w4 w3 hf hl) (g := mkF m pc Ls (argsL.reverse ++ .ref a :: st)) rfl hml (Steps.refl _) (a := a) (argsL := argsL) (rest := st) (lenOf hpd hlen) rfl (by show 2 * 0 + _ ≤ _; omega) (hb hby hd) (fun _ _ => ⟨rfl, eT, hcl, hsl⟩)
  dsimp only [Pt.U, Pt.locs, Pt.cells, Pt.slots] at X1 l1 y1 z1 st1 hQ
  subst l1 y1 z1
  exact Go.by (fun t q => st1.trans q) (k T1 Lc v X1 hQ)
theorem own_callV (X : Stand p l e R s m args below meth c T locs cells slots) (hx : p.tables.exec = Jvm.exec) (hby : c.code = bs) (hZ : Z.Warmed39 s.vm) {own : String} {idx : Nat} {y : MethodName} {yb : ByteArray} {yml : Nat} {yrt : Option FieldType} {rm : Room} {as : Array Value} {Qc : Option Value → Heap → List Loc → Prop} {a : Addr} {C : String} (argsL : List Value) (has : (.ref a :: argsL).toArray = as) (hown : s.vm.findClass own = some m.cls) (w1 : (Jvm.Cond.methodLink own idx y).before a0 Z = true) (w5 : (Jvm.Cond.declares y).before a0 Z = true) (w6 : (Jvm.Cond.selects C y y).before a0 Z = true) (w2 : (Jvm.Cond.instanceMethod y).before a0 Z = true) (w3 : (Jvm.Cond.initialized y.cls).before a0 Z = true) (w4 : (Jvm.Cond.code y yb yml yrt).before a0 Z = true) (E : Exa Z h a C) (hy : y.cls ≠ "java/lang/invoke/MethodHandle" ∧ y.cls ≠ "java/lang/invoke/VarHandle") (hd : decode bs pc = .ok (.invokevirtual idx, 3)) (hM : Met1 l Z y yb yml yrt rm as h Qc) (eT : T.heap = h) {ps : List FieldType} {pr : Option FieldType} (hpd : parseMethodDescriptor y.desc = some ⟨ps, pr⟩) (hlen : argsL.length = ps.length) (hml : Ls.size = c.maxLocals) (hf : rm.frames + 1 ≤ R.frames) (W : Nat) (hW : (st.map fun v => v.category).sum = W) (hl : W + (yml + 11) + rm.locals ≤ R.locals) (hcl : cells + rm.cells ≤ R.cells) (hsl : slots + rm.slots ≤ R.slots) (pc' : Nat) (hp : pc + 3 = pc') (k : ∀ (T' : State) (L : List Loc) (v : Option Value), Stand p l e R s m args below meth c T' (locs ++ L) (cells + rm.cells) (slots + rm.slots) → Qc v T'.heap L → Go p e below G T' (mkF m pc' Ls (v.toList ++ st))) : Go p e below G T (mkF m pc Ls (argsL.reverse ++ .ref a :: st)) := by
  subst has
  obtain ⟨cq, kq, qa, qb, qc⟩ := isOf hZ eT E
  subst hp
  obtain ⟨v, vm₁, ⟨T1, L1, k1, n1⟩, -, X1, ⟨Lc, hQ, l1, y1, z1⟩, st1⟩ := X.virtualBack hx (y := y) (z := y) hown (mvT hZ w1) (mvT hZ w5) (notFace_of_selects (args := #[]) (mvT hZ w6)) (mvT hZ w6) (mvT hZ w2) hy (backOf (W := W) (hM []) hZ w4 w3 hf hl) qa qc (g := mkF m pc Ls (argsL.reverse ++ .ref a :: st)) rfl hml (Steps.refl _) (argsL := argsL) (rest := st) (lenOf hpd hlen) rfl (by show 2 * 0 + _ ≤ _; omega) (hb hby hd) (fun _ _ => ⟨rfl, eT, hcl, hsl⟩)
  dsimp only [Pt.U, Pt.locs, Pt.cells, Pt.slots] at X1 l1 y1 z1 st1 hQ
  subst l1 y1 z1
  exact Go.by (fun t q => st1.trans q) (k T1 Lc v X1 hQ)
theorem own_getF (X : Stand p l e R s m args below meth c T locs cells slots) (hx : p.tables.exec = Jvm.exec) (hby : c.code = bs) (hZ : Z.Warmed39 s.vm) {own R0 O n d host : String} {idx : Nat} {a : Addr} {v : Value} (hown : s.vm.findClass own = some m.cls) (w : (Jvm.Cond.fieldLink own idx R0 n d).before a0 Z = true ∨ (Jvm.Cond.fieldLinkNest own idx R0 n d host).before a0 Z = true) (via : Via Z R0 O n d) (eT : T.heap = h) (F : Fld Z h a O n d v) (hd : decode bs pc = .ok (.getfield idx, 3)) (pc' : Nat) (hp : pc + 3 = pc') (k : ∀ T', Stand p l e R s m args below meth c T' locs cells slots → T'.heap = h → Go p e below G T' (mkF m pc' Ls (v :: st))) : Go p e below G T (mkF m pc Ls (.ref a :: st)) := by
  subst hp
  obtain ⟨T1, X1, e1, st1⟩ := getF X hx hZ hown w via eT F (g := mkF m pc Ls (.ref a :: st)) rfl rfl (hb hby hd)
  exact Go.by (fun t q => st1 t q) (k T1 X1 e1)
theorem own_putF (X : Stand p l e R s m args below meth c T locs cells slots) (hx : p.tables.exec = Jvm.exec) (hby : c.code = bs) (hZ : Z.Warmed39 s.vm) {own R0 O n d host C : String} {idx kk : Nat} {a : Addr} {v old : Value} {ty : FieldType} (hown : s.vm.findClass own = some m.cls) (w : (Jvm.Cond.fieldLink own idx R0 n d).before a0 Z = true ∨ (Jvm.Cond.fieldLinkNest own idx R0 n d host).before a0 Z = true) (via : Via Z R0 O n d) (eT : T.heap = h) (F : Fld Z h a O n d old) (E : Exa Z h a C) (lw : (Jvm.Cond.lays C O n d).before a0 Z = true ∨ ((Jvm.Cond.laysFinal C O n d).before a0 Z = true ∧ own = O ∧ meth.name = "<init>")) (wi : (Jvm.Cond.instantiable C kk).before a0 Z = true) (hty : parseFieldDescriptor d = some ty) (hn : narrow ty v = v) (hf : fits ty v = true) (hd : decode bs pc = .ok (.putfield idx, 3)) (pc' : Nat) (hp : pc + 3 = pc') (k : ∀ T' h', Stand p l e R s m args below meth c T' (locs ++ [⟨a, Jvm.RoadKit.slotOf Z O n d⟩]) cells slots → T'.heap = h' → Wr h h' a (Jvm.RoadKit.slotOf Z O n d) v → Go p e below G T' (mkF m pc' Ls st)) : Go p e below G T (mkF m pc Ls (v :: .ref a :: st)) := by
  subst hp
  obtain ⟨T1, h1, X1, e1, W1, st1⟩ := putF X hx hZ hown w via eT F E lw wi hty hn hf (g := mkF m pc Ls (v :: .ref a :: st)) rfl rfl (hb hby hd)
  exact Go.by (fun t q => st1 t q) (k T1 h1 X1 e1 W1)
theorem own_new (X : Stand p l e R s m args below meth c T locs cells slots) (hx : p.tables.exec = Jvm.exec) (hby : c.code = bs) (hZ : Z.Warmed39 s.vm) {own C : String} {idx n : Nat} (hown : s.vm.findClass own = some m.cls) (w : (Jvm.Cond.classLink own idx C).before a0 Z = true) (wi : (Jvm.Cond.instantiable C n).before a0 Z = true) (wz : (Jvm.Cond.initialized C).before a0 Z = true) (eT : T.heap = h) (hd : decode bs pc = .ok (.new idx, 3)) (hcl : cells + 1 ≤ R.cells) (hsl : slots + n ≤ R.slots) (pc' : Nat) (hp : pc + 3 = pc') (k : ∀ T' h' (b : Addr), b = h.size → Stand p l e R s m args below meth c T' locs (cells + 1) (slots + n) → T'.heap = h' → Ext h h' → Exa Z h' b C → (∀ {O nm d : String} {ty : FieldType}, Laid Z a0 C O nm d → parseFieldDescriptor d = some ty → Fld Z h' b O nm d (defaultValue ty)) → Go p e below G T' (mkF m pc' Ls (.ref b :: st))) : Go p e below G T (mkF m pc Ls st) := by
  subst hp
  obtain ⟨T1, h1, X1, e1, E1, A1, D1, -, st1⟩ := newO X hx hZ hown w wi wz eT (g := mkF m pc Ls st) rfl (hb hby hd) hcl hsl
  exact Go.by (fun t q => st1 t q) (k T1 h1 _ rfl X1 e1 E1 A1 D1)
theorem own_initO (X : Stand p l e R s m args below meth c T locs cells slots) (hx : p.tables.exec = Jvm.exec) (hby : c.code = bs) (hZ : Z.Warmed39 s.vm) {own : String} {idx : Nat} {a : Addr} (hown : s.vm.findClass own = some m.cls) (w1 : (Jvm.Cond.methodLink own idx Lib.objectInit).before a0 Z = true) (w2 : (Jvm.Cond.instanceMethod Lib.objectInit).before a0 Z = true) (w3 : (Jvm.Cond.code Lib.objectInit ⟨#[0xb1]⟩ 1 none).before a0 Z = true) (eT : T.heap = h) (hml : Ls.size = c.maxLocals) (hd : decode bs pc = .ok (.invokespecial idx, 3)) (hf : 1 ≤ R.frames) (W : Nat) (hW : (st.map fun v => v.category).sum = W) (hl : W + 12 ≤ R.locals) (pc' : Nat) (hp : pc + 3 = pc') (k : ∀ T', Stand p l e R s m args below meth c T' locs cells slots → T'.heap = h → Go p e below G T' (mkF m pc' Ls st)) : Go p e below G T (mkF m pc Ls (.ref a :: st)) := by
  subst hp
  obtain ⟨T1, X1, e1, st1⟩ := initO X hx hZ hown w1 w2 w3 eT (g := mkF m pc Ls (.ref a :: st)) rfl hml rfl (hb hby hd) hf (W := W) (by show 2 * 0 + _ ≤ _; omega) hl
  exact Go.by (fun t q => st1 t q) (k T1 X1 e1)
theorem own_putFN (X : Stand p l e R s m args below meth c T locs cells slots) (hx : p.tables.exec = Jvm.exec) (hby : c.code = bs) (hZ : Z.Warmed39 s.vm) {own R0 O n d C : String} {idx kk : Nat} {a : Addr} {v v' old : Value} {ty : FieldType} (hown : s.vm.findClass own = some m.cls) (w : (Jvm.Cond.fieldLink own idx R0 n d).before a0 Z = true) (via : Via Z R0 O n d) (eT : T.heap = h) (F : Fld Z h a O n d old) (E : Exa Z h a C) (lw : (Jvm.Cond.lays C O n d).before a0 Z = true ∨ ((Jvm.Cond.laysFinal C O n d).before a0 Z = true ∧ own = O ∧ meth.name = "<init>")) (wi : (Jvm.Cond.instantiable C kk).before a0 Z = true) (hty : parseFieldDescriptor d = some ty) (hn : narrow ty v = v') (hf : fits ty v' = true) (hd : decode bs pc = .ok (.putfield idx, 3)) (pc' : Nat) (hp : pc + 3 = pc') (k : ∀ T' h', Stand p l e R s m args below meth c T' (locs ++ [⟨a, Jvm.RoadKit.slotOf Z O n d⟩]) cells slots → T'.heap = h' → Wr h h' a (Jvm.RoadKit.slotOf Z O n d) v' → Go p e below G T' (mkF m pc' Ls st)) : Go p e below G T (mkF m pc Ls (v :: .ref a :: st)) := by
  subst hp
  obtain ⟨T1, h1, X1, e1, W1, st1⟩ := putFN X hx hZ hown w via eT F E lw wi hty hn hf (g := mkF m pc Ls (v :: .ref a :: st)) rfl rfl (hb hby hd)
  exact Go.by (fun t q => st1 t q) (k T1 h1 X1 e1 W1)
theorem own_castY (X : Stand p l e R s m args below meth c T locs cells slots) (hx : p.tables.exec = Jvm.exec) (hby : c.code = bs) (hZ : Z.Warmed39 s.vm) {own K : String} {idx : Nat} {a : Addr} (hown : s.vm.findClass own = some m.cls) (w : (Jvm.Cond.classLink own idx K).before a0 Z = true) (eT : T.heap = h) (F : Ins Z h a K true) (hd : decode bs pc = .ok (.checkcast idx, 3)) (pc' : Nat) (hp : pc + 3 = pc') (k : ∀ T', Stand p l e R s m args below meth c T' locs cells slots → T'.heap = h → Go p e below G T' (mkF m pc' Ls (.ref a :: st))) : Go p e below G T (mkF m pc Ls (.ref a :: st)) := by
  subst hp
  obtain ⟨T1, X1, e1, st1⟩ := castY X hx hZ hown w eT F (g := mkF m pc Ls (.ref a :: st)) rfl rfl (hb hby hd)
  exact Go.by (fun t q => st1 t q) (k T1 X1 e1)
theorem own_getS (X : Stand p l e R s m args below meth c T locs cells slots) (hx : p.tables.exec = Jvm.exec) (hby : c.code = bs) (hZ : Z.Warmed39 s.vm) {own R0 O n d host : String} {idx : Nat} {v : Value} (hown : s.vm.findClass own = some m.cls) (w : (Jvm.Cond.fieldLink own idx R0 n d).before a0 Z = true ∨ (Jvm.Cond.fieldLinkNest own idx R0 n d host).before a0 Z = true) (via : Via Z R0 O n d) (eT : T.heap = h) (F : Sta Z h O n d v) (hd : decode bs pc = .ok (.getstatic idx, 3)) (pc' : Nat) (hp : pc + 3 = pc') (k : ∀ T', Stand p l e R s m args below meth c T' locs cells slots → T'.heap = h → Go p e below G T' (mkF m pc' Ls (v :: st))) : Go p e below G T (mkF m pc Ls st) := by
  subst hp
  obtain ⟨T1, X1, e1, st1⟩ := getS2 X hx hZ hown w via eT F (g := mkF m pc Ls st) rfl (hb hby hd)
  exact Go.by (fun t q => st1 t q) (k T1 X1 e1)
/-- an array of n places that hold what f says -/
def Afn (Z : State) (h : Heap) (a : Addr) (ty : FieldType) (n : Nat) (f : Nat → Value) : Prop := ∃ cl : Cell, Arr Z h a cl ty ∧ cl.slots.size = n ∧ ∀ i, i < n → cl.slots[i]? = some (f i) ∧ fits ty (f i) = true
def upd (f : Nat → Value) (i : Nat) (v : Value) : Nat → Value := fun j => if j = i then v else f j
theorem Afn.lt {a : Addr} {ty : FieldType} {n : Nat} {f : Nat → Value} (F : Afn Z h a ty n f) : a < h.size := by obtain ⟨cl, A, -⟩ := F; exact A.lt
theorem Afn.ext {h' : Heap} {a : Addr} {ty : FieldType} {n : Nat} {f : Nat → Value} (F : Afn Z h a ty n f) (E : Ext h h') : Afn Z h' a ty n f := by obtain ⟨cl, A, r⟩ := F; exact ⟨cl, A.ext E, r⟩
theorem Afn.other {h' : Heap} {a b : Addr} {sl : Nat} {v : Value} {ty : FieldType} {n : Nat} {f : Nat → Value} (F : Afn Z h b ty n f) (W : Wr h h' a sl v) (q : b ≠ a) : Afn Z h' b ty n f := by obtain ⟨cl, A, r⟩ := F; exact ⟨cl, A.other W q, r⟩
theorem Afn.keep {h' : Heap} {a : Addr} {ws : List Addr} {ty : FieldType} {n : Nat} {f : Nat → Value} (F : Afn Z h a ty n f) (K : Keep h h' ws) (q : a ∉ ws) : Afn Z h' a ty n f := by obtain ⟨cl, A, r⟩ := F; exact ⟨cl, ⟨K.2.1 a cl A.1 q, A.2⟩, r⟩
theorem Afn.to {a : Addr} {ty : FieldType} {n : Nat} {f f' : Nat → Value} (F : Afn Z h a ty n f) (q : ∀ i, i < n → f i = f' i) : Afn Z h a ty n f' := by obtain ⟨cl, A, S, H⟩ := F; exact ⟨cl, A, S, fun i hi => q i hi ▸ H i hi⟩
theorem Afn.new {a : Addr} {k : ClassId} {ty : FieldType} {z : Int32} {n : Nat} (A : Arr Z h a (newA k ty z) ty) (q : z.toNatClampNeg = n) : Afn Z h a ty n (fun _ => defaultValue ty) := by
  refine ⟨_, A, by rw [sz_new]; exact q, fun i hi => ⟨?_, by cases ty <;> rfl⟩⟩
  subst q
  show (Array.replicate z.toNatClampNeg (defaultValue ty))[i]? = _
  rw [Array.getElem?_replicate, if_pos hi]
theorem Afn.set {h' : Heap} {a : Addr} {ty : FieldType} {n i : Nat} {v : Value} {f : Nat → Value} (F : Afn Z h a ty n f) (W : Wr h h' a i v) (hi : i < n) (hv : fits ty v = true) : Afn Z h' a ty n (upd f i v) := by
  obtain ⟨cl, A, S, H⟩ := F
  refine ⟨cl.setSlot i v, A.same W, by rw [sz_set]; exact S, fun j hj => ?_⟩
  unfold upd
  by_cases q : j = i
  · subst q
    rw [if_pos rfl]
    refine ⟨?_, hv⟩
    show (cl.slots.setIfInBounds j v)[j]? = some v
    rw [Array.getElem?_setIfInBounds_self_of_lt (by rw [S]; exact hj)]
  · rw [if_neg q]
    refine ⟨?_, (H j hj).2⟩
    rw [← (H j hj).1]
    exact Array.getElem?_setIfInBounds_ne (Ne.symm q)
/-- an array of ints (bytes, chars, shorts): n places that hold what g says -/
def Afi (Z : State) (h : Heap) (a : Addr) (ty : FieldType) (n : Nat) (g : Nat → Int32) : Prop := Afn Z h a ty n (fun i => .int (g i))
def updI (g : Nat → Int32) (i : Nat) (v : Int32) : Nat → Int32 := fun j => if j = i then v else g j
theorem Afi.lt {a : Addr} {ty : FieldType} {n : Nat} {g : Nat → Int32} (F : Afi Z h a ty n g) : a < h.size := Afn.lt F
theorem Afi.ext {h' : Heap} {a : Addr} {ty : FieldType} {n : Nat} {g : Nat → Int32} (F : Afi Z h a ty n g) (E : Ext h h') : Afi Z h' a ty n g := Afn.ext F E
theorem Afi.other {h' : Heap} {a b : Addr} {sl : Nat} {v : Value} {ty : FieldType} {n : Nat} {g : Nat → Int32} (F : Afi Z h b ty n g) (W : Wr h h' a sl v) (q : b ≠ a) : Afi Z h' b ty n g := Afn.other F W q
theorem Afi.keep {h' : Heap} {a : Addr} {ws : List Addr} {ty : FieldType} {n : Nat} {g : Nat → Int32} (F : Afi Z h a ty n g) (K : Keep h h' ws) (q : a ∉ ws) : Afi Z h' a ty n g := Afn.keep F K q
theorem Afi.to {a : Addr} {ty : FieldType} {n : Nat} {g g' : Nat → Int32} (F : Afi Z h a ty n g) (q : ∀ i, i < n → g i = g' i) : Afi Z h a ty n g' := Afn.to F fun i hi => congrArg Value.int (q i hi)
theorem Afi.set {h' : Heap} {a : Addr} {ty : FieldType} {n i : Nat} {v : Int32} {g : Nat → Int32} (F : Afi Z h a ty n g) (W : Wr h h' a i (.int v)) (hi : i < n) (hv : fits ty (.int v) = true) : Afi Z h' a ty n (updI g i v) :=
  (Afn.set F W hi hv).to fun j _ => by
    unfold upd updI
    by_cases q : j = i
    · rw [if_pos q, if_pos q]
    · rw [if_neg q, if_neg q]
theorem own_caload (X : Stand p l e R s m args below meth c T locs cells slots) (hx : p.tables.exec = Jvm.exec) (hby : c.code = bs) (hZ : Z.Warmed39 s.vm) {a : Addr} {j : Int32} {n : Nat} {g : Nat → Int32} (v : Int32) (eT : T.heap = h) (F : Afi Z h a .char n g) (hj : ¬ (j < 0 ∨ n ≤ j.toNatClampNeg)) (hv : g j.toNatClampNeg = v) (hd : decode bs pc = .ok (.caload, 1)) (pc' : Nat) (hp : pc + 1 = pc') (k : Go p e below G T (mkF m pc' Ls (.int v :: st))) : Go p e below G T (mkF m pc Ls (.int j :: .ref a :: st)) := by
  subst hp
  subst hv
  obtain ⟨cl, A, S, H⟩ := F
  subst S
  exact Go.by (fun t q => X.caload hx (j := j) (v := .int (g j.toNatClampNeg)) (by rw [eT]; exact A.1) (State.isArrayOf_alike hZ.alike A.2.1) A.2.2 hj (H _ (Nat.lt_of_not_le fun q => hj (Or.inr q))).1 (g := mkF m pc Ls (.int j :: .ref a :: st)) rfl rfl (hb hby hd) t q) k
theorem own_aaload (X : Stand p l e R s m args below meth c T locs cells slots) (hx : p.tables.exec = Jvm.exec) (hby : c.code = bs) (hZ : Z.Warmed39 s.vm) {a : Addr} {j : Int32} {n : Nat} {ty : FieldType} {f : Nat → Value} (v : Value) (eT : T.heap = h) (F : Afn Z h a ty n f) (hty : ty.isReference = true) (hj : ¬ (j < 0 ∨ n ≤ j.toNatClampNeg)) (hv : f j.toNatClampNeg = v) (hd : decode bs pc = .ok (.aaload, 1)) (pc' : Nat) (hp : pc + 1 = pc') (k : Go p e below G T (mkF m pc' Ls (v :: st))) : Go p e below G T (mkF m pc Ls (.int j :: .ref a :: st)) := by
  subst hp
  subst hv
  obtain ⟨cl, A, S, H⟩ := F
  subst S
  exact Go.by (fun t q => X.aaload hx (j := j) (v := f j.toNatClampNeg) (by rw [eT]; exact A.1) (State.isArrayOf_alike hZ.alike A.2.1) hty A.2.2 hj (H _ (Nat.lt_of_not_le fun q => hj (Or.inr q))).1 (g := mkF m pc Ls (.int j :: .ref a :: st)) rfl rfl (hb hby hd) t q) k
theorem own_arraylength (X : Stand p l e R s m args below meth c T locs cells slots) (hx : p.tables.exec = Jvm.exec) (hby : c.code = bs) (hZ : Z.Warmed39 s.vm) {a : Addr} {ty : FieldType} {n : Nat} {f : Nat → Value} (z : Int32) (eT : T.heap = h) (F : Afn Z h a ty n f) (hz : n.toInt32 = z) (hd : decode bs pc = .ok (.arraylength, 1)) (pc' : Nat) (hp : pc + 1 = pc') (k : Go p e below G T (mkF m pc' Ls (.int z :: st))) : Go p e below G T (mkF m pc Ls (.ref a :: st)) := by
  subst hp
  subst hz
  obtain ⟨cl, A, S, H⟩ := F
  subst S
  exact Go.by (fun t q => X.arraylength hx (by rw [eT]; exact A.1) (State.isArrayOf_alike hZ.alike A.2.1) (g := mkF m pc Ls (.ref a :: st)) rfl rfl (hb hby hd) t q) k
theorem own_bastore (X : Stand p l e R s m args below meth c T locs cells slots) (hx : p.tables.exec = Jvm.exec) (hby : c.code = bs) (hZ : Z.Warmed39 s.vm) {a : Addr} {j x : Int32} {n : Nat} {g : Nat → Int32} (eT : T.heap = h) (F : Afi Z h a .byte n g) (hj : ¬ (j < 0 ∨ n ≤ j.toNatClampNeg)) (hd : decode bs pc = .ok (.bastore, 1)) (pc' : Nat) (hp : pc + 1 = pc') (k : ∀ T' h', Stand p l e R s m args below meth c T' (locs ++ [⟨a, j.toNatClampNeg⟩]) cells slots → T'.heap = h' → Wr h h' a j.toNatClampNeg (.int (nar .byte x)) → Afi Z h' a .byte n (updI g j.toNatClampNeg (nar .byte x)) → Go p e below G T' (mkF m pc' Ls st)) : Go p e below G T (mkF m pc Ls (.int x :: .int j :: .ref a :: st)) := by
  subst hp
  have F0 := F
  obtain ⟨cl, A, S, H⟩ := F
  obtain ⟨T1, h1, X1, e1, W1, st1⟩ := stB X hx hZ eT A (j := j) (x := x) (by rw [S]; exact hj) (g := mkF m pc Ls (.int x :: .int j :: .ref a :: st)) rfl rfl (hb hby hd)
  exact Go.by (fun t q => st1 t q) (k T1 h1 X1 e1 W1 (F0.set W1 (Nat.lt_of_not_le fun q => hj (Or.inr q)) (fits_nar_byte x)))
theorem own_castore (X : Stand p l e R s m args below meth c T locs cells slots) (hx : p.tables.exec = Jvm.exec) (hby : c.code = bs) (hZ : Z.Warmed39 s.vm) {a : Addr} {j x : Int32} {n : Nat} {g : Nat → Int32} (eT : T.heap = h) (F : Afi Z h a .char n g) (hj : ¬ (j < 0 ∨ n ≤ j.toNatClampNeg)) (hd : decode bs pc = .ok (.castore, 1)) (pc' : Nat) (hp : pc + 1 = pc') (k : ∀ T' h', Stand p l e R s m args below meth c T' (locs ++ [⟨a, j.toNatClampNeg⟩]) cells slots → T'.heap = h' → Wr h h' a j.toNatClampNeg (.int (nar .char x)) → Afi Z h' a .char n (updI g j.toNatClampNeg (nar .char x)) → Go p e below G T' (mkF m pc' Ls st)) : Go p e below G T (mkF m pc Ls (.int x :: .int j :: .ref a :: st)) := by
  subst hp
  have F0 := F
  obtain ⟨cl, A, S, H⟩ := F
  obtain ⟨T1, h1, X1, e1, W1, st1⟩ := stC X hx hZ eT A (j := j) (x := x) (by rw [S]; exact hj) (g := mkF m pc Ls (.int x :: .int j :: .ref a :: st)) rfl rfl (hb hby hd)
  exact Go.by (fun t q => st1 t q) (k T1 h1 X1 e1 W1 (F0.set W1 (Nat.lt_of_not_le fun q => hj (Or.inr q)) (fits_nar_char x)))
theorem own_newarray (X : Stand p l e R s m args below meth c T locs cells slots) (hx : p.tables.exec = Jvm.exec) (hby : c.code = bs) (hZ : Z.Warmed39 s.vm) {aty : ArrayType} {z : Int32} {n cap : Nat} {ad : String} (w : (Jvm.Cond.arrayClass (newarray.typeOf aty)).before a0 Z = true) (eT : T.heap = h) (hd : decode bs pc = .ok (.newarray aty, 2)) (hz : ¬ z < 0) (hn : z.toNatClampNeg = n) (hcap : n ≤ cap) (hb8 : cap * 8 ≤ 536870912) (hcl : cells + 1 ≤ R.cells) (hsl : slots + cap ≤ R.slots) (had : "[" ++ (newarray.typeOf aty).toString = ad) (pc' : Nat) (hp : pc + 2 = pc') (k : ∀ T' h' (b : Addr), b = h.size → Stand p l e R s m args below meth c T' locs (cells + 1) (slots + cap) → T'.heap = h' → Ext h h' → Afn Z h' b (newarray.typeOf aty) n (fun _ => defaultValue (newarray.typeOf aty)) → Exa Z h' b ad → Go p e below G T' (mkF m pc' Ls (.ref b :: st))) : Go p e below G T (mkF m pc Ls (.int z :: st)) := by
  subst hp
  obtain ⟨T1, h1, cA, X1, e1, E1, A1, Ex1, st1⟩ := newPE X hx hZ w eT (g := mkF m pc Ls (.int z :: st)) rfl (hb hby hd) rfl hz (cap := cap) (by rw [hn]; exact hcap) hb8 hcl hsl had
  exact Go.by (fun t q => st1 t q) (k T1 h1 _ rfl X1 e1 E1 (Afn.new A1 hn) Ex1)
theorem own_ext0 {h0 : Heap} (K : Keep h0 h []) : Ext h0 h := ⟨K.1, fun a c q => K.2.1 a c q nin0⟩
/-- an array of references over the class C takes objects of C -/
def Orr (Z : State) (h : Heap) (b : Addr) (C : String) : Prop := ∃ (c : Cell) (cA : ClassId), Arr Z h b c (.object C) ∧ c.cls = cA ∧ Ovr Z cA C
theorem Orr.lt {b : Addr} {C : String} (F : Orr Z h b C) : b < h.size := by obtain ⟨c, cA, A, -⟩ := F; exact A.lt
theorem Orr.ext {h' : Heap} {b : Addr} {C : String} (F : Orr Z h b C) (E : Ext h h') : Orr Z h' b C := by obtain ⟨c, cA, A, r⟩ := F; exact ⟨c, cA, A.ext E, r⟩
theorem Orr.wr {h' : Heap} {a b : Addr} {C : String} {sl : Nat} {v : Value} (F : Orr Z h b C) (W : Wr h h' a sl v) : Orr Z h' b C := by
  obtain ⟨c, cA, A, q, O⟩ := F
  by_cases e : b = a
  · subst e; exact ⟨_, cA, A.same W, q, O⟩
  · exact ⟨c, cA, A.other W e, q, O⟩
theorem Orr.sto {b y : Addr} {C : String} (F : Orr Z h b C) (I : Ins Z h y C true) : Sto Z h b (.ref y) := by
  obtain ⟨c, cA, A, q, O⟩ := F
  exact Sto.ofV A q O I
end OwnGo

/-! ## bodies that may load String constants: the Stand is over the start with the tables of now, 'Since' says how they came to be -/
def FinW (s : State) (Q : Option Value → Heap → List Loc → Prop) (kc ks : Nat) (U' : State) (o : Outcome) : Prop :=
  ∃ v L, o = .returned v ∧ Q v U'.heap L ∧ ReturnedEndW s o U' L kc ks
def Met1W (l : Launch) (Z : State) (y : MethodName) (bytes : ByteArray) (maxL : Nat) (rt : Option FieldType) (rm : Room) (as : Array Value) (h0 : Heap) (Q : Option Value → Heap → List Loc → Prop) : Prop :=
  ∀ ws : List Jvm.Cond, MetFree l y (head1 (Jvm.Cond.code y bytes maxL rt :: ws) rm) (fun a U => a = as ∧ Z.Warmed39 U.vm ∧ U.heap = h0) (fun _ _ _ _ _ => True)
    (fun _ U o U' => ∃ v L, o = .returned v ∧ Q v U'.heap L ∧ ReturnedEndW U o U' L rm.cells rm.slots)
section OwnWide
variable {p : Program} {l : Launch} {e : Env} {R : Room} {s : State} {m : MethodId} {args : Array Value} {below : List Frame} {meth : Method} {c : Code} {T T' : State} {locs : List Loc} {cells slots : Nat} {G : State → Outcome → Prop} {Ls : Array Slot} {st : List Value} {pc : Nat} {bs : ByteArray} {Z : State} {a0 : Array Value} {h : Heap} {g g' : JFrame} {vm0 : Vm}
theorem own_met_ofW {Z : State} {y : MethodName} {bytes : ByteArray} {maxL : Nat} {rt : Option FieldType} {rm : Room} {as : Array Value} {h0 : Heap} {Q : Option Value → Heap → List Loc → Prop} {Ls0 : Array Slot} (hpl : plainFor y = true) (ef : ∀ m, entryFrame m as maxL = mkF m 0 Ls0 [])
    (body : ∀ (p : Program) (e : Env) (s : State) (m : MethodId) (below : List Frame) (meth : Method) (c : Code) (s₁ : State) (vm0 : Vm), Stand p l e rm (s.setVm vm0) m as below meth c s₁ [] 0 0 → p.tables.exec = Jvm.exec → c.code = bytes → c.maxLocals = maxL → Z.Warmed39 (s.setVm vm0).vm → (s.setVm vm0).vm.findClass y.cls = some m.cls → meth.name = y.name → meth.sig.returnType = rt → meth.locks = false → s₁.heap = h0 → s.Since vm0 0 → s.heap = h0 →
      Go p e below (FinW s Q rm.cells rm.slots) s₁ (mkF m 0 Ls0 [])) : Met1W l Z y bytes maxL rt rm as h0 Q := by
  intro ws
  refine MetFree.of_bodySF hpl hisR ?_
  intro p e s m args below meth c s₁ Bd hml0 hP hK
  obtain ⟨rfl, hZ, hh⟩ := hP
  have k := body p e s m below meth c s₁ s.vm (Stand.of_body Bd) Bd.exec Bd.bytes hml0 hZ (findClass_of_methodNamed Bd.named) (name_of_methodNamed Bd.named Bd.method).1 Bd.returns Bd.notSynchronized (by rw [← hh, Bd.state]; rfl) ((State.WarmedH.refl s).since 0) hh
  rw [← ef m] at k
  exact k
theorem own_leaveW {Q : Option Value → Heap → List Loc → Prop} {kc ks k0 : Nat} {v : Option Value} (X : Stand p l e R (s.setVm vm0) m args below meth c T locs cells slots) (hS : s.Since vm0 k0) (hk : k0 ≤ T.heap.size) (hv : meth.sig.returnType = none → v = none) (hlk : meth.locks = false) (hc : cells ≤ kc) (hs : slots ≤ ks) (hQ : Q v T.heap locs)
    (k : ∀ fs, (∀ (f : JFrame) (acts : List Action), f.method = m → f.locked = none → f.entered = [] → (doReturn e (T.setTop f) acts v).1 = T.setFrames fs) → Steps p.tables e below (T.setTop g) (T.setFrames fs)) : Go p e below (FinW s Q kc ks) T g := by
  obtain ⟨fs, hr, hrun, hended, r1, r2, r3, r4⟩ := X.leaveW hS hk (v := v) hv hlk
  exact ⟨_, _, k fs hr, hrun, hended, _, _, rfl, hQ, r1, r2, r3, r4.mono hc hs⟩
theorem own_retNW {Q : Option Value → Heap → List Loc → Prop} {kc ks k0 : Nat} {z z' : Int32} {t : FieldType} (X : Stand p l e R (s.setVm vm0) m args below meth c T locs cells slots) (hx : p.tables.exec = Jvm.exec) (hby : c.code = bs) (hS : s.Since vm0 k0) (hk : k0 ≤ T.heap.size) (hret : meth.sig.returnType = some t) (hlk : meth.locks = false) (ht : t = .boolean ∨ t = .byte ∨ t = .char ∨ t = .short) (hd : decode bs pc = .ok (.ireturn, 1)) (hc : cells ≤ kc) (hs : slots ≤ ks) (hn : nar t z = z') (hQ : Q (some (.int z')) T.heap locs) : Go p e below (FinW s Q kc ks) T (mkF m pc Ls (.int z :: st)) := by
  subst hn
  refine own_leaveW X hS hk (fun q => by rw [hret] at q; cases q) hlk hc hs hQ fun fs hr => ?_
  exact retN X hx hret ht (hb hby hd) hr
theorem own_retW {Q : Option Value → Heap → List Loc → Prop} {kc ks k0 : Nat} (X : Stand p l e R (s.setVm vm0) m args below meth c T locs cells slots) (hx : p.tables.exec = Jvm.exec) (hby : c.code = bs) (hS : s.Since vm0 k0) (hk : k0 ≤ T.heap.size) (hret : meth.sig.returnType = none) (hlk : meth.locks = false) (hd : decode bs pc = .ok (.return_, 1)) (hc : cells ≤ kc) (hs : slots ≤ ks) (hQ : Q none T.heap locs) : Go p e below (FinW s Q kc ks) T (mkF m pc Ls []) := by
  refine own_leaveW X hS hk (fun _ => rfl) hlk hc hs hQ fun fs hr => ?_
  exact X.returnOut hx hret (hb hby hd) hr
theorem own_strAtoms (hZ : Z.Warmed39 (s.setVm vm0).vm) (wS : ∀ a ∈ Bundle.stringAtoms, a.before a0 Z = true) : ∀ a ∈ Bundle.stringAtoms, a.before args (s.setVm vm0) = true := fun d hd => by
  have q := wS d hd
  simp only [Bundle.stringAtoms, List.mem_cons, List.not_mem_nil, or_false] at hd
  rcases hd with rfl | rfl | rfl | rfl | rfl | rfl | rfl
  · exact mv (s := s.setVm vm0) hZ q
  · exact mv (s := s.setVm vm0) hZ q
  · exact mvA (s := s.setVm vm0) hZ q
  · exact mv (s := s.setVm vm0) hZ q
  · exact mv (s := s.setVm vm0) hZ q
  · exact mv (s := s.setVm vm0) hZ q
  · exact mv (s := s.setVm vm0) hZ q
theorem own_ldcS (X : Stand p l e R (s.setVm vm0) m args below meth c T locs cells slots) (hx : p.tables.exec = Jvm.exec) (hby : c.code = bs) (hZ : Z.Warmed39 (s.setVm vm0).vm) {own text : String} {idx k0 : Nat} (hown : (s.setVm vm0).vm.findClass own = some m.cls) (w : (Jvm.Cond.stringLink own idx text).before a0 Z = true) (wS : ∀ a ∈ Bundle.stringAtoms, a.before a0 Z = true) (eT : T.heap = h) (hS : s.Since vm0 k0) (hk : k0 ≤ h.size) (hd : decode bs pc = .ok (.ldc idx, 2)) (n : Nat) (hn : 4 * text.toList.length ≤ n) (hbig : n ≤ 536870912) (hcl : cells + 2 ≤ R.cells) (hsl : slots + (n + 4) ≤ R.slots) (pc' : Nat) (hp : pc + 2 = pc')
    (k : ∀ (T' : State) (h' : Heap) (a : Addr) (vm1 : Vm) (k1 : Nat), Stand p l e R (s.setVm vm1) m args below meth c T' locs (cells + 2) (slots + (n + 4)) → T'.heap = h' → Ext h h' → s.Since vm1 k1 → k1 ≤ h'.size → Z.Warmed39 (s.setVm vm1).vm → (s.setVm vm1).vm.findClass own = some m.cls → Go p e below G T' (mkF m pc' Ls (.ref a :: st))) : Go p e below G T (mkF m pc Ls st) := by
  subst hp
  obtain ⟨a, T1, X1, hS1, -, hb1, -, st1⟩ := X.ldcStringCold hx (own := own) hown (mvS hZ w) (own_strAtoms hZ wS) (g := mkF m pc Ls st) rfl (hb hby hd) hn hbig hcl hsl
  subst eT
  have E := ext_of hb1
  exact Go.by (fun t q => st1 t q) (k T1 _ a T1.vm _ X1 rfl E (hS.trans hS1 (Nat.le_trans hk E.1)) (Nat.le_refl _) (State.Warmed39.trans (t := s.setVm vm0) hZ hS1.1) (by rw [show (s.setVm T1.vm).vm = T1.vm from rfl, hS1.1.alike.findClass]; exact hown))
end OwnWide

theorem d21_0 : decode jdk_18_method_1_code 0 = .ok (.aload_n 0, 1) := by decide +kernel
theorem d21_1 : decode jdk_18_method_1_code 1 = .ok (.invokespecial 1, 3) := by decide +kernel
theorem d21_4 : decode jdk_18_method_1_code 4 = .ok (.return_, 1) := by decide +kernel
theorem pn_21 : plainName "java/lang/Number" = true := by first | (simp [plainName, overriddenIn]; done) | decide +kernel
theorem d20_0 : decode jdk_33_method_23_code 0 = .ok (.aload_n 0, 1) := by decide +kernel
theorem d20_1 : decode jdk_33_method_23_code 1 = .ok (.invokespecial 202, 3) := by decide +kernel
theorem d20_4 : decode jdk_33_method_23_code 4 = .ok (.aload_n 0, 1) := by decide +kernel
theorem d20_5 : decode jdk_33_method_23_code 5 = .ok (.iload_n 1, 1) := by decide +kernel
theorem d20_6 : decode jdk_33_method_23_code 6 = .ok (.putfield 205, 3) := by decide +kernel
theorem d20_9 : decode jdk_33_method_23_code 9 = .ok (.return_, 1) := by decide +kernel
theorem pn_20 : plainName "java/lang/Integer" = true := by first | (simp [plainName, overriddenIn]; done) | decide +kernel
theorem pd_1 : parseMethodDescriptor "()V" = some ⟨[], none⟩ := by decide +kernel
theorem d1_0 : decode jdk_33_method_22_code 0 = .ok (.iload_n 0, 1) := by decide +kernel
theorem d1_1 : decode jdk_33_method_22_code 1 = .ok (.bipush (-128), 2) := by decide +kernel
theorem d1_3 : decode jdk_33_method_22_code 3 = .ok (.if_icmp .lt 20, 3) := by decide +kernel
theorem d1_6 : decode jdk_33_method_22_code 6 = .ok (.iload_n 0, 1) := by decide +kernel
theorem d1_7 : decode jdk_33_method_22_code 7 = .ok (.getstatic 191, 3) := by decide +kernel
theorem d1_10 : decode jdk_33_method_22_code 10 = .ok (.if_icmp .gt 13, 3) := by decide +kernel
theorem d1_13 : decode jdk_33_method_22_code 13 = .ok (.getstatic 195, 3) := by decide +kernel
theorem d1_16 : decode jdk_33_method_22_code 16 = .ok (.iload_n 0, 1) := by decide +kernel
theorem d1_17 : decode jdk_33_method_22_code 17 = .ok (.sipush 128, 3) := by decide +kernel
theorem d1_20 : decode jdk_33_method_22_code 20 = .ok (.iadd, 1) := by decide +kernel
theorem d1_21 : decode jdk_33_method_22_code 21 = .ok (.aaload, 1) := by decide +kernel
theorem d1_22 : decode jdk_33_method_22_code 22 = .ok (.areturn, 1) := by decide +kernel
theorem d1_23 : decode jdk_33_method_22_code 23 = .ok (.new 1, 3) := by decide +kernel
theorem d1_26 : decode jdk_33_method_22_code 26 = .ok (.dup, 1) := by decide +kernel
theorem d1_27 : decode jdk_33_method_22_code 27 = .ok (.iload_n 0, 1) := by decide +kernel
theorem d1_28 : decode jdk_33_method_22_code 28 = .ok (.invokespecial 199, 3) := by decide +kernel
theorem d1_31 : decode jdk_33_method_22_code 31 = .ok (.areturn, 1) := by decide +kernel
theorem pd_5 : parseMethodDescriptor "(I)V" = some ⟨[.int], none⟩ := by decide +kernel
theorem d6_0 : decode jdk_52_method_21_code 0 = .ok (.iconst 0, 1) := by decide +kernel
theorem d6_1 : decode jdk_52_method_21_code 1 = .ok (.istore 5, 2) := by decide +kernel
theorem d6_3 : decode jdk_52_method_21_code 3 = .ok (.iload 5, 2) := by decide +kernel
theorem d6_5 : decode jdk_52_method_21_code 5 = .ok (.iload 4, 2) := by decide +kernel
theorem d6_7 : decode jdk_52_method_21_code 7 = .ok (.if_icmp .ge 37, 3) := by decide +kernel
theorem d6_10 : decode jdk_52_method_21_code 10 = .ok (.aload_n 0, 1) := by decide +kernel
theorem d6_11 : decode jdk_52_method_21_code 11 = .ok (.iload_n 1, 1) := by decide +kernel
theorem d6_12 : decode jdk_52_method_21_code 12 = .ok (.caload, 1) := by decide +kernel
theorem d6_13 : decode jdk_52_method_21_code 13 = .ok (.istore 6, 2) := by decide +kernel
theorem d6_15 : decode jdk_52_method_21_code 15 = .ok (.iload 6, 2) := by decide +kernel
theorem d6_17 : decode jdk_52_method_21_code 17 = .ok (.sipush 255, 3) := by decide +kernel
theorem d6_20 : decode jdk_52_method_21_code 20 = .ok (.if_icmp .le 6, 3) := by decide +kernel
theorem d6_26 : decode jdk_52_method_21_code 26 = .ok (.aload_n 2, 1) := by decide +kernel
theorem d6_27 : decode jdk_52_method_21_code 27 = .ok (.iload_n 3, 1) := by decide +kernel
theorem d6_28 : decode jdk_52_method_21_code 28 = .ok (.iload 6, 2) := by decide +kernel
theorem d6_30 : decode jdk_52_method_21_code 30 = .ok (.i2b, 1) := by decide +kernel
theorem d6_31 : decode jdk_52_method_21_code 31 = .ok (.bastore, 1) := by decide +kernel
theorem d6_32 : decode jdk_52_method_21_code 32 = .ok (.iinc 1 1, 3) := by decide +kernel
theorem d6_35 : decode jdk_52_method_21_code 35 = .ok (.iinc 3 1, 3) := by decide +kernel
theorem d6_38 : decode jdk_52_method_21_code 38 = .ok (.iinc 5 1, 3) := by decide +kernel
theorem d6_41 : decode jdk_52_method_21_code 41 = .ok (.goto (-38), 3) := by decide +kernel
theorem d6_44 : decode jdk_52_method_21_code 44 = .ok (.iload 4, 2) := by decide +kernel
theorem d6_46 : decode jdk_52_method_21_code 46 = .ok (.ireturn, 1) := by decide +kernel
theorem pn_6 : plainName "java/lang/StringUTF16" = true := by first | (simp [plainName, overriddenIn]; done) | decide +kernel
theorem d5_0 : decode jdk_52_method_16_code 0 = .ok (.iload_n 2, 1) := by decide +kernel
theorem d5_1 : decode jdk_52_method_16_code 1 = .ok (.newarray .byte, 2) := by decide +kernel
theorem d5_3 : decode jdk_52_method_16_code 3 = .ok (.astore_n 3, 1) := by decide +kernel
theorem d5_4 : decode jdk_52_method_16_code 4 = .ok (.aload_n 0, 1) := by decide +kernel
theorem d5_5 : decode jdk_52_method_16_code 5 = .ok (.iload_n 1, 1) := by decide +kernel
theorem d5_6 : decode jdk_52_method_16_code 6 = .ok (.aload_n 3, 1) := by decide +kernel
theorem d5_7 : decode jdk_52_method_16_code 7 = .ok (.iconst 0, 1) := by decide +kernel
theorem d5_8 : decode jdk_52_method_16_code 8 = .ok (.iload_n 2, 1) := by decide +kernel
theorem d5_9 : decode jdk_52_method_16_code 9 = .ok (.invokestatic 115, 3) := by decide +kernel
theorem d5_12 : decode jdk_52_method_16_code 12 = .ok (.istore 4, 2) := by decide +kernel
theorem d5_14 : decode jdk_52_method_16_code 14 = .ok (.iload 4, 2) := by decide +kernel
theorem d5_16 : decode jdk_52_method_16_code 16 = .ok (.iload_n 2, 1) := by decide +kernel
theorem d5_17 : decode jdk_52_method_16_code 17 = .ok (.if_icmp .eq 40, 3) := by decide +kernel
theorem d5_57 : decode jdk_52_method_16_code 57 = .ok (.aload_n 3, 1) := by decide +kernel
theorem d5_58 : decode jdk_52_method_16_code 58 = .ok (.areturn, 1) := by decide +kernel
theorem pd_16 : parseMethodDescriptor "([CI[BII)I" = some ⟨[(.array .char), .int, (.array .byte), .int, .int], some .int⟩ := by decide +kernel
theorem d7_0 : decode jdk_52_method_15_code 0 = .ok (.iload_n 1, 1) := by decide +kernel
theorem d7_1 : decode jdk_52_method_15_code 1 = .ok (.aload_n 0, 1) := by decide +kernel
theorem d7_2 : decode jdk_52_method_15_code 2 = .ok (.arraylength, 1) := by decide +kernel
theorem d7_3 : decode jdk_52_method_15_code 3 = .ok (.isub, 1) := by decide +kernel
theorem d7_4 : decode jdk_52_method_15_code 4 = .ok (.bipush 31, 2) := by decide +kernel
theorem d7_6 : decode jdk_52_method_15_code 6 = .ok (.iushr, 1) := by decide +kernel
theorem d7_7 : decode jdk_52_method_15_code 7 = .ok (.i2b, 1) := by decide +kernel
theorem d7_8 : decode jdk_52_method_15_code 8 = .ok (.ireturn, 1) := by decide +kernel
theorem d3_0 : decode jdk_42_method_149_code 0 = .ok (.aload_n 0, 1) := by decide +kernel
theorem d3_1 : decode jdk_42_method_149_code 1 = .ok (.invokespecial 1, 3) := by decide +kernel
theorem d3_4 : decode jdk_42_method_149_code 4 = .ok (.iload_n 3, 1) := by decide +kernel
theorem d3_5 : decode jdk_42_method_149_code 5 = .ok (.ifCond .ne 22, 3) := by decide +kernel
theorem d3_27 : decode jdk_42_method_149_code 27 = .ok (.getstatic 38, 3) := by decide +kernel
theorem d3_30 : decode jdk_42_method_149_code 30 = .ok (.ifCond .eq 28, 3) := by decide +kernel
theorem d3_33 : decode jdk_42_method_149_code 33 = .ok (.aload_n 1, 1) := by decide +kernel
theorem d3_34 : decode jdk_42_method_149_code 34 = .ok (.iload_n 2, 1) := by decide +kernel
theorem d3_35 : decode jdk_42_method_149_code 35 = .ok (.iload_n 3, 1) := by decide +kernel
theorem d3_36 : decode jdk_42_method_149_code 36 = .ok (.invokestatic 177, 3) := by decide +kernel
theorem d3_39 : decode jdk_42_method_149_code 39 = .ok (.astore 5, 2) := by decide +kernel
theorem d3_41 : decode jdk_42_method_149_code 41 = .ok (.aload_n 0, 1) := by decide +kernel
theorem d3_42 : decode jdk_42_method_149_code 42 = .ok (.aload 5, 2) := by decide +kernel
theorem d3_44 : decode jdk_42_method_149_code 44 = .ok (.iload_n 3, 1) := by decide +kernel
theorem d3_45 : decode jdk_42_method_149_code 45 = .ok (.invokestatic 47, 3) := by decide +kernel
theorem d3_48 : decode jdk_42_method_149_code 48 = .ok (.putfield 15, 3) := by decide +kernel
theorem d3_51 : decode jdk_42_method_149_code 51 = .ok (.aload_n 0, 1) := by decide +kernel
theorem d3_52 : decode jdk_42_method_149_code 52 = .ok (.aload 5, 2) := by decide +kernel
theorem d3_54 : decode jdk_42_method_149_code 54 = .ok (.putfield 9, 3) := by decide +kernel
theorem d3_57 : decode jdk_42_method_149_code 57 = .ok (.return_, 1) := by decide +kernel
theorem pn_3 : plainName "java/lang/String" = true := by first | (simp [plainName, overriddenIn]; done) | decide +kernel
theorem pd_14 : parseMethodDescriptor "([CII)[B" = some ⟨[(.array .char), .int, .int], some (.array .byte)⟩ := by decide +kernel
theorem pd_12 : parseMethodDescriptor "([BI)B" = some ⟨[(.array .byte), .int], some .byte⟩ := by decide +kernel
theorem d2_0 : decode jdk_42_method_3_code 0 = .ok (.aload_n 0, 1) := by decide +kernel
theorem d2_1 : decode jdk_42_method_3_code 1 = .ok (.aload_n 1, 1) := by decide +kernel
theorem d2_2 : decode jdk_42_method_3_code 2 = .ok (.iconst 0, 1) := by decide +kernel
theorem d2_3 : decode jdk_42_method_3_code 3 = .ok (.aload_n 1, 1) := by decide +kernel
theorem d2_4 : decode jdk_42_method_3_code 4 = .ok (.arraylength, 1) := by decide +kernel
theorem d2_5 : decode jdk_42_method_3_code 5 = .ok (.aconst_null, 1) := by decide +kernel
theorem d2_6 : decode jdk_42_method_3_code 6 = .ok (.invokespecial 27, 3) := by decide +kernel
theorem d2_9 : decode jdk_42_method_3_code 9 = .ok (.return_, 1) := by decide +kernel
theorem pd_15 : parseMethodDescriptor "([CIILjava/lang/Void;)V" = some ⟨[(.array .char), .int, .int, (.object "java/lang/Void")], none⟩ := by decide +kernel
theorem d11_0 : decode jdk_78_method_2_code 0 = .ok (.aload_n 0, 1) := by decide +kernel
theorem d11_1 : decode jdk_78_method_2_code 1 = .ok (.invokespecial 1, 3) := by decide +kernel
theorem d11_4 : decode jdk_78_method_2_code 4 = .ok (.aload_n 0, 1) := by decide +kernel
theorem d11_5 : decode jdk_78_method_2_code 5 = .ok (.aload_n 0, 1) := by decide +kernel
theorem d11_6 : decode jdk_78_method_2_code 6 = .ok (.putfield 7, 3) := by decide +kernel
theorem d11_9 : decode jdk_78_method_2_code 9 = .ok (.aload_n 0, 1) := by decide +kernel
theorem d11_10 : decode jdk_78_method_2_code 10 = .ok (.getstatic 13, 3) := by decide +kernel
theorem d11_13 : decode jdk_78_method_2_code 13 = .ok (.putfield 17, 3) := by decide +kernel
theorem d11_16 : decode jdk_78_method_2_code 16 = .ok (.aload_n 0, 1) := by decide +kernel
theorem d11_17 : decode jdk_78_method_2_code 17 = .ok (.getstatic 20, 3) := by decide +kernel
theorem d11_20 : decode jdk_78_method_2_code 20 = .ok (.putfield 24, 3) := by decide +kernel
theorem d11_23 : decode jdk_78_method_2_code 23 = .ok (.aload_n 0, 1) := by decide +kernel
theorem d11_24 : decode jdk_78_method_2_code 24 = .ok (.invokevirtual 27, 3) := by decide +kernel
theorem d11_27 : decode jdk_78_method_2_code 27 = .ok (.pop, 1) := by decide +kernel
theorem d11_28 : decode jdk_78_method_2_code 28 = .ok (.aload_n 0, 1) := by decide +kernel
theorem d11_29 : decode jdk_78_method_2_code 29 = .ok (.aload_n 1, 1) := by decide +kernel
theorem d11_30 : decode jdk_78_method_2_code 30 = .ok (.putfield 31, 3) := by decide +kernel
theorem d11_33 : decode jdk_78_method_2_code 33 = .ok (.return_, 1) := by decide +kernel
theorem pn_11 : plainName "java/lang/Throwable" = true := by first | (simp [plainName, overriddenIn]; done) | decide +kernel
theorem d10_0 : decode jdk_59_method_2_code 0 = .ok (.aload_n 0, 1) := by decide +kernel
theorem d10_1 : decode jdk_59_method_2_code 1 = .ok (.aload_n 1, 1) := by decide +kernel
theorem d10_2 : decode jdk_59_method_2_code 2 = .ok (.invokespecial 7, 3) := by decide +kernel
theorem d10_5 : decode jdk_59_method_2_code 5 = .ok (.return_, 1) := by decide +kernel
theorem pn_10 : plainName "java/lang/Exception" = true := by first | (simp [plainName, overriddenIn]; done) | decide +kernel
theorem pd_11 : parseMethodDescriptor "(Ljava/lang/String;)V" = some ⟨[(.object "java/lang/String")], none⟩ := by decide +kernel
theorem d9_0 : decode jdk_58_method_2_code 0 = .ok (.aload_n 0, 1) := by decide +kernel
theorem d9_1 : decode jdk_58_method_2_code 1 = .ok (.aload_n 1, 1) := by decide +kernel
theorem d9_2 : decode jdk_58_method_2_code 2 = .ok (.invokespecial 7, 3) := by decide +kernel
theorem d9_5 : decode jdk_58_method_2_code 5 = .ok (.return_, 1) := by decide +kernel
theorem pn_9 : plainName "java/lang/RuntimeException" = true := by first | (simp [plainName, overriddenIn]; done) | decide +kernel
theorem d14_0 : decode jdk_31_method_11_code 0 = .ok (.aload_n 0, 1) := by decide +kernel
theorem d14_1 : decode jdk_31_method_11_code 1 = .ok (.ifnonnull 12, 3) := by decide +kernel
theorem d14_13 : decode jdk_31_method_11_code 13 = .ok (.aload_n 0, 1) := by decide +kernel
theorem d14_14 : decode jdk_31_method_11_code 14 = .ok (.areturn, 1) := by decide +kernel
theorem pn_14 : plainName "java/util/Objects" = true := by first | (simp [plainName, overriddenIn]; done) | decide +kernel
theorem d8_0 : decode prog_2_method_1_code 0 = .ok (.aload_n 0, 1) := by decide +kernel
theorem d8_1 : decode prog_2_method_1_code 1 = .ok (.aload_n 2, 1) := by decide +kernel
theorem d8_2 : decode prog_2_method_1_code 2 = .ok (.invokespecial 1, 3) := by decide +kernel
theorem d8_5 : decode prog_2_method_1_code 5 = .ok (.aload_n 0, 1) := by decide +kernel
theorem d8_6 : decode prog_2_method_1_code 6 = .ok (.aload_n 1, 1) := by decide +kernel
theorem d8_7 : decode prog_2_method_1_code 7 = .ok (.ldc 7, 2) := by decide +kernel
theorem d8_9 : decode prog_2_method_1_code 9 = .ok (.invokestatic 9, 3) := by decide +kernel
theorem d8_12 : decode prog_2_method_1_code 12 = .ok (.checkcast 15, 3) := by decide +kernel
theorem d8_15 : decode prog_2_method_1_code 15 = .ok (.putfield 17, 3) := by decide +kernel
theorem d8_18 : decode prog_2_method_1_code 18 = .ok (.return_, 1) := by decide +kernel
theorem pn_8 : plainName "com/example/inflight/inflight/ApiException" = true := by first | (simp [plainName, overriddenIn]; done) | decide +kernel
theorem pd_10 : parseMethodDescriptor "(Ljava/lang/Object;Ljava/lang/String;)Ljava/lang/Object;" = some ⟨[(.object "java/lang/Object"), (.object "java/lang/String")], some (.object "java/lang/Object")⟩ := by decide +kernel
theorem d16_0 : decode jdk_30_method_1_code 0 = .ok (.aload_n 0, 1) := by decide +kernel
theorem d16_1 : decode jdk_30_method_1_code 1 = .ok (.invokespecial 1, 3) := by decide +kernel
theorem d16_4 : decode jdk_30_method_1_code 4 = .ok (.return_, 1) := by decide +kernel
theorem pn_16 : plainName "java/lang/Record" = true := by first | (simp [plainName, overriddenIn]; done) | decide +kernel
theorem d15_0 : decode prog_11_method_1_code 0 = .ok (.aload_n 0, 1) := by decide +kernel
theorem d15_1 : decode prog_11_method_1_code 1 = .ok (.invokespecial 1, 3) := by decide +kernel
theorem d15_4 : decode prog_11_method_1_code 4 = .ok (.aload_n 0, 1) := by decide +kernel
theorem d15_5 : decode prog_11_method_1_code 5 = .ok (.aload_n 1, 1) := by decide +kernel
theorem d15_6 : decode prog_11_method_1_code 6 = .ok (.putfield 7, 3) := by decide +kernel
theorem d15_9 : decode prog_11_method_1_code 9 = .ok (.aload_n 0, 1) := by decide +kernel
theorem d15_10 : decode prog_11_method_1_code 10 = .ok (.aload_n 2, 1) := by decide +kernel
theorem d15_11 : decode prog_11_method_1_code 11 = .ok (.putfield 13, 3) := by decide +kernel
theorem d15_14 : decode prog_11_method_1_code 14 = .ok (.return_, 1) := by decide +kernel
theorem pn_15 : plainName "com/example/inflight/inflight/Outcome" = true := by first | (simp [plainName, overriddenIn]; done) | decide +kernel
theorem d17_0 : decode prog_11_method_4_code 0 = .ok (.aload_n 0, 1) := by decide +kernel
theorem d17_1 : decode prog_11_method_4_code 1 = .ok (.getfield 13, 3) := by decide +kernel
theorem d17_4 : decode prog_11_method_4_code 4 = .ok (.ifnull 7, 3) := by decide +kernel
theorem d17_11 : decode prog_11_method_4_code 11 = .ok (.iconst 0, 1) := by decide +kernel
theorem d17_12 : decode prog_11_method_4_code 12 = .ok (.ireturn, 1) := by decide +kernel
theorem d17_7 : decode prog_11_method_4_code 7 = .ok (.iconst 1, 1) := by decide +kernel
theorem d17_8 : decode prog_11_method_4_code 8 = .ok (.goto 4, 3) := by decide +kernel
theorem d18_0 : decode prog_11_method_2_code 0 = .ok (.new 8, 3) := by decide +kernel
theorem d18_3 : decode prog_11_method_2_code 3 = .ok (.dup, 1) := by decide +kernel
theorem d18_4 : decode prog_11_method_2_code 4 = .ok (.aload_n 0, 1) := by decide +kernel
theorem d18_5 : decode prog_11_method_2_code 5 = .ok (.aconst_null, 1) := by decide +kernel
theorem d18_6 : decode prog_11_method_2_code 6 = .ok (.invokespecial 17, 3) := by decide +kernel
theorem d18_9 : decode prog_11_method_2_code 9 = .ok (.areturn, 1) := by decide +kernel
theorem pd_9 : parseMethodDescriptor "(Ljava/lang/Object;Lcom/example/inflight/inflight/ApiException;)V" = some ⟨[(.object "java/lang/Object"), (.object "com/example/inflight/inflight/ApiException")], none⟩ := by decide +kernel
theorem d19_0 : decode prog_11_method_3_code 0 = .ok (.new 8, 3) := by decide +kernel
theorem d19_3 : decode prog_11_method_3_code 3 = .ok (.dup, 1) := by decide +kernel
theorem d19_4 : decode prog_11_method_3_code 4 = .ok (.aconst_null, 1) := by decide +kernel
theorem d19_5 : decode prog_11_method_3_code 5 = .ok (.aload_n 0, 1) := by decide +kernel
theorem d19_6 : decode prog_11_method_3_code 6 = .ok (.ldc 20, 2) := by decide +kernel
theorem d19_8 : decode prog_11_method_3_code 8 = .ok (.invokestatic 21, 3) := by decide +kernel
theorem d19_11 : decode prog_11_method_3_code 11 = .ok (.checkcast 27, 3) := by decide +kernel
theorem d19_14 : decode prog_11_method_3_code 14 = .ok (.invokespecial 17, 3) := by decide +kernel
theorem d19_17 : decode prog_11_method_3_code 17 = .ok (.areturn, 1) := by decide +kernel
theorem pn_0 : plainName "com/example/inflight/inflight/OutcomeIsFailedPinLaw" = true := by first | (simp [plainName, overriddenIn]; done) | decide +kernel
theorem pd_13 : parseMethodDescriptor "([C)V" = some ⟨[(.array .char)], none⟩ := by decide +kernel
theorem pd_7 : parseMethodDescriptor "(Lcom/example/inflight/inflight/ErrorCode;Ljava/lang/String;)V" = some ⟨[(.object "com/example/inflight/inflight/ErrorCode"), (.object "java/lang/String")], none⟩ := by decide +kernel
theorem pd_2 : parseMethodDescriptor "()Z" = some ⟨[], some .boolean⟩ := by decide +kernel
theorem pd_8 : parseMethodDescriptor "(Ljava/lang/Object;)Lcom/example/inflight/inflight/Outcome;" = some ⟨[(.object "java/lang/Object")], some (.object "com/example/inflight/inflight/Outcome")⟩ := by decide +kernel
theorem pd_6 : parseMethodDescriptor "(Lcom/example/inflight/inflight/ApiException;)Lcom/example/inflight/inflight/Outcome;" = some ⟨[(.object "com/example/inflight/inflight/ApiException")], some (.object "com/example/inflight/inflight/Outcome")⟩ := by decide +kernel
theorem pd_3 : parseMethodDescriptor "(I)Ljava/lang/Integer;" = some ⟨[.int], some (.object "java/lang/Integer")⟩ := by decide +kernel
section OwnExc
variable {p : Program} {l : Launch} {e : Env} {R : Room} {s : State} {m : MethodId} {args : Array Value} {below : List Frame} {meth : Method} {c : Code} {T T' : State} {locs : List Loc} {cells slots : Nat} {G : State → Outcome → Prop} {Ls : Array Slot} {st : List Value} {pc : Nat} {bs : ByteArray} {Z : State} {a0 : Array Value} {h : Heap} {vm0 : Vm}
/-- a body beneath which a stack trace may be filled in; it loads no constant -/
def Met1N (l : Launch) (Z : State) (y : MethodName) (bytes : ByteArray) (maxL : Nat) (rt : Option FieldType) (rm : Room) (as : Array Value) (h0 : Heap) (Q : Option Value → Heap → List Loc → Prop) : Prop :=
  ∀ ws : List Jvm.Cond, MetFree l y (head1 (Jvm.Cond.code y bytes maxL rt :: ws) rm) (fun a U => a = as ∧ Z.Warmed39 U.vm ∧ U.heap = h0) (fun _ _ bl s _ => s.vm.MethodsKnown ∧ s.vm.FramesKnown bl)
    (fun _ U o U' => ∃ v L, o = .returned v ∧ Q v U'.heap L ∧ FrameEnd U o U' L rm.cells rm.slots)
/-- likewise, and it may load constants -/
def Met1K (l : Launch) (Z : State) (y : MethodName) (bytes : ByteArray) (maxL : Nat) (rt : Option FieldType) (rm : Room) (as : Array Value) (h0 : Heap) (Q : Option Value → Heap → List Loc → Prop) : Prop :=
  ∀ ws : List Jvm.Cond, MetFree l y (head1 (Jvm.Cond.code y bytes maxL rt :: ws) rm) (fun a U => a = as ∧ Z.Warmed39 U.vm ∧ U.heap = h0) (fun _ _ bl s _ => s.vm.MethodsKnown ∧ s.vm.FramesKnown bl)
    (fun _ U o U' => ∃ v L, o = .returned v ∧ Q v U'.heap L ∧ ReturnedEndW U o U' L rm.cells rm.slots)
theorem own_met_ofN {Z : State} {y : MethodName} {bytes : ByteArray} {maxL : Nat} {rt : Option FieldType} {rm : Room} {as : Array Value} {h0 : Heap} {Q : Option Value → Heap → List Loc → Prop} {Ls0 : Array Slot} (hpl : plainFor y = true) (ef : ∀ m, entryFrame m as maxL = mkF m 0 Ls0 [])
    (body : ∀ (p : Program) (e : Env) (s : State) (m : MethodId) (below : List Frame) (meth : Method) (c : Code) (s₁ : State), Stand p l e rm s m as below meth c s₁ [] 0 0 → p.tables.exec = Jvm.exec → c.code = bytes → c.maxLocals = maxL → Z.Warmed39 s.vm → s.vm.findClass y.cls = some m.cls → meth.name = y.name → meth.sig.returnType = rt → meth.locks = false → s₁.heap = h0 → s.heap = h0 → s.vm.MethodsKnown → s.vm.FramesKnown below →
      Go p e below (FinQ s Q rm.cells rm.slots) s₁ (mkF m 0 Ls0 [])) : Met1N l Z y bytes maxL rt rm as h0 Q := by
  intro ws
  refine MetFree.of_bodySF hpl hisR ?_
  intro p e s m args below meth c s₁ Bd hml0 hP hK
  obtain ⟨rfl, hZ, hh⟩ := hP
  have k := body p e s m below meth c s₁ (Stand.of_body Bd) Bd.exec Bd.bytes hml0 hZ (findClass_of_methodNamed Bd.named) (name_of_methodNamed Bd.named Bd.method).1 Bd.returns Bd.notSynchronized (by rw [← hh, Bd.state]; rfl) hh hK.1 hK.2
  rw [← ef m] at k
  exact k
theorem own_met_ofK {Z : State} {y : MethodName} {bytes : ByteArray} {maxL : Nat} {rt : Option FieldType} {rm : Room} {as : Array Value} {h0 : Heap} {Q : Option Value → Heap → List Loc → Prop} {Ls0 : Array Slot} (hpl : plainFor y = true) (ef : ∀ m, entryFrame m as maxL = mkF m 0 Ls0 [])
    (body : ∀ (p : Program) (e : Env) (s : State) (m : MethodId) (below : List Frame) (meth : Method) (c : Code) (s₁ : State) (vm0 : Vm), Stand p l e rm (s.setVm vm0) m as below meth c s₁ [] 0 0 → p.tables.exec = Jvm.exec → c.code = bytes → c.maxLocals = maxL → Z.Warmed39 (s.setVm vm0).vm → (s.setVm vm0).vm.findClass y.cls = some m.cls → meth.name = y.name → meth.sig.returnType = rt → meth.locks = false → s₁.heap = h0 → s.Since vm0 0 → s.heap = h0 → (s.setVm vm0).vm.MethodsKnown → (s.setVm vm0).vm.FramesKnown below →
      Go p e below (FinW s Q rm.cells rm.slots) s₁ (mkF m 0 Ls0 [])) : Met1K l Z y bytes maxL rt rm as h0 Q := by
  intro ws
  refine MetFree.of_bodySF hpl hisR ?_
  intro p e s m args below meth c s₁ Bd hml0 hP hK
  obtain ⟨rfl, hZ, hh⟩ := hP
  have k := body p e s m below meth c s₁ s.vm (Stand.of_body Bd) Bd.exec Bd.bytes hml0 hZ (findClass_of_methodNamed Bd.named) (name_of_methodNamed Bd.named Bd.method).1 Bd.returns Bd.notSynchronized (by rw [← hh, Bd.state]; rfl) ((State.WarmedH.refl s).since 0) hh hK.1 hK.2
  rw [← ef m] at k
  exact k
theorem own_callCN (X : Stand p l e R s m args below meth c T locs cells slots) (hx : p.tables.exec = Jvm.exec) (hby : c.code = bs) (hZ : Z.Warmed39 s.vm) {own : String} {idx : Nat} {y : MethodName} {yb : ByteArray} {yml : Nat} {rm : Room} {as : Array Value} {Qc : Option Value → Heap → List Loc → Prop} {a : Addr} (argsL : List Value) (has : (.ref a :: argsL).toArray = as) (hy1 : y.name = "<init>") (hown : s.vm.findClass own = some m.cls) (hTK : s.vm.MethodsKnown) (hBelow : s.vm.FramesKnown below) (w1 : (Jvm.Cond.methodLink own idx y).before a0 Z = true) (w2 : (Jvm.Cond.instanceMethod y).before a0 Z = true) (w3 : (Jvm.Cond.initialized y.cls).before a0 Z = true) (w4 : (Jvm.Cond.code y yb yml none).before a0 Z = true) (hy : y.cls ≠ "java/lang/invoke/MethodHandle" ∧ y.cls ≠ "java/lang/invoke/VarHandle") (hd : decode bs pc = .ok (.invokespecial idx, 3))
    (hM : Met1N l Z y yb yml none rm as h Qc) (eT : T.heap = h) {ps : List FieldType} {pr : Option FieldType} (hpd : parseMethodDescriptor y.desc = some ⟨ps, pr⟩) (hlen : argsL.length = ps.length) (hml : Ls.size = c.maxLocals) (hf : rm.frames + 1 ≤ R.frames) (W : Nat) (hW : (st.map fun v => v.category).sum = W) (hl : W + (yml + 11) + rm.locals ≤ R.locals) (hcl : cells + rm.cells ≤ R.cells) (hsl : slots + rm.slots ≤ R.slots) (pc' : Nat) (hp : pc + 3 = pc')
    (k : ∀ (T' : State) (L : List Loc) (v : Option Value), Stand p l e R s m args below meth c T' (locs ++ L) (cells + rm.cells) (slots + rm.slots) → Qc v T'.heap L → Go p e below G T' (mkF m pc' Ls (v.toList ++ st))) : Go p e below G T (mkF m pc Ls (argsL.reverse ++ .ref a :: st)) := by
  subst has
  subst hp
  obtain ⟨v, vm₁, ⟨T1, L1, k1, n1⟩, -, X1, ⟨Lc, hQ, l1, y1, z1⟩, st1⟩ := X.specialBack hx (y := y) hy1 hown (mvT hZ w1) (mvT hZ w2) (mvT hZ w4) hy (backOfKL (W := W) (hM []) hZ w4 w3 hf hl hTK hBelow) (g := mkF m pc Ls (argsL.reverse ++ .ref a :: st)) rfl hml (Steps.refl _) (a := a) (argsL := argsL) (rest := st) (lenOf hpd hlen) rfl (by show 2 * 0 + _ ≤ _; omega) (hb hby hd) (fun _ _ => ⟨rfl, eT, hcl, hsl⟩)
  dsimp only [Pt.U, Pt.locs, Pt.cells, Pt.slots] at X1 l1 y1 z1 st1 hQ
  subst l1 y1 z1
  exact Go.by (fun t q => st1.trans q) (k T1 Lc v X1 hQ)
theorem own_callCK (X : Stand p l e R (s.setVm vm0) m args below meth c T locs cells slots) (hx : p.tables.exec = Jvm.exec) (hby : c.code = bs) (hZ : Z.Warmed39 (s.setVm vm0).vm) {own : String} {idx : Nat} {y : MethodName} {yb : ByteArray} {yml k0 : Nat} {rm : Room} {as : Array Value} {Qc : Option Value → Heap → List Loc → Prop} {a : Addr} (argsL : List Value) (has : (.ref a :: argsL).toArray = as) (hy1 : y.name = "<init>") (hown : (s.setVm vm0).vm.findClass own = some m.cls) (hS : s.Since vm0 k0) (hk : k0 ≤ h.size) (hTK : (s.setVm vm0).vm.MethodsKnown) (hBelow : (s.setVm vm0).vm.FramesKnown below) (w1 : (Jvm.Cond.methodLink own idx y).before a0 Z = true) (w2 : (Jvm.Cond.instanceMethod y).before a0 Z = true) (w3 : (Jvm.Cond.initialized y.cls).before a0 Z = true) (w4 : (Jvm.Cond.code y yb yml none).before a0 Z = true) (hy : y.cls ≠ "java/lang/invoke/MethodHandle" ∧ y.cls ≠ "java/lang/invoke/VarHandle") (hd : decode bs pc = .ok (.invokespecial idx, 3))
    (hM : Met1K l Z y yb yml none rm as h Qc) (eT : T.heap = h) {ps : List FieldType} {pr : Option FieldType} (hpd : parseMethodDescriptor y.desc = some ⟨ps, pr⟩) (hlen : argsL.length = ps.length) (hml : Ls.size = c.maxLocals) (hf : rm.frames + 1 ≤ R.frames) (W : Nat) (hW : (st.map fun v => v.category).sum = W) (hl : W + (yml + 11) + rm.locals ≤ R.locals) (hcl : cells + rm.cells ≤ R.cells) (hsl : slots + rm.slots ≤ R.slots) (pc' : Nat) (hp : pc + 3 = pc')
    (k : ∀ (T' : State) (L : List Loc) (v : Option Value) (vm1 : Vm), Stand p l e R (s.setVm vm1) m args below meth c T' (locs ++ L) (cells + rm.cells) (slots + rm.slots) → s.Since vm1 T'.heap.size → Z.Warmed39 (s.setVm vm1).vm → (s.setVm vm1).vm.findClass own = some m.cls → Qc v T'.heap L → Go p e below G T' (mkF m pc' Ls (v.toList ++ st))) : Go p e below G T (mkF m pc Ls (argsL.reverse ++ .ref a :: st)) := by
  subst hp
  subst has
  obtain ⟨v, vm₁, ⟨T1, L1, k1, n1⟩, -, X1, hS1, g1, ⟨Lc, hQ, l1, y1, z1⟩, st1⟩ := X.specialBackS hx (y := y) hy1 hown (mvT hZ w1) (mvT hZ w2) (mvT hZ w4) hy (backOfSKL (W := W) (hM []) hZ w4 w3 hf hl hTK hBelow) (g := mkF m pc Ls (argsL.reverse ++ .ref a :: st)) rfl hml (Steps.refl _) (a := a) (argsL := argsL) (rest := st) (lenOf hpd hlen) rfl (by show 2 * 0 + _ ≤ _; omega) (hb hby hd) (fun _ _ => ⟨rfl, eT, hcl, hsl⟩)
  dsimp only [Pt.U, Pt.locs, Pt.cells, Pt.slots] at X1 l1 y1 z1 st1 hQ hS1 g1
  subst l1 y1 z1
  obtain ⟨X2, hS2, hZ2, hown2⟩ := rebS hS (eT ▸ hk) X1 hS1 g1 hZ hown
  exact Go.by (fun t q => st1.trans q) (k T1 Lc v _ X2 hS2 hZ2 hown2 hQ)
theorem own_callSW (X : Stand p l e R (s.setVm vm0) m args below meth c T locs cells slots) (hx : p.tables.exec = Jvm.exec) (hby : c.code = bs) (hZ : Z.Warmed39 (s.setVm vm0).vm) {own : String} {idx : Nat} {y : MethodName} {yb : ByteArray} {yml k0 : Nat} {yrt : Option FieldType} {rm : Room} {as : Array Value} {Qc : Option Value → Heap → List Loc → Prop} (argsL : List Value) (has : argsL.toArray = as) (hown : (s.setVm vm0).vm.findClass own = some m.cls) (hS : s.Since vm0 k0) (hk : k0 ≤ h.size) (w1 : (Jvm.Cond.methodLink own idx y).before a0 Z = true) (w2 : (Jvm.Cond.static y).before a0 Z = true) (w3 : (Jvm.Cond.initialized y.cls).before a0 Z = true) (w4 : (Jvm.Cond.code y yb yml yrt).before a0 Z = true) (hy : y.cls ≠ "java/lang/invoke/MethodHandle" ∧ y.cls ≠ "java/lang/invoke/VarHandle") (hd : decode bs pc = .ok (.invokestatic idx, 3))
    (hM : Met1W l Z y yb yml yrt rm as h Qc) (eT : T.heap = h) {ps : List FieldType} {pr : Option FieldType} (hpd : parseMethodDescriptor y.desc = some ⟨ps, pr⟩) (hlen : argsL.length = ps.length) (hml : Ls.size = c.maxLocals) (hf : rm.frames + 1 ≤ R.frames) (W : Nat) (hW : (st.map fun v => v.category).sum = W) (hl : W + (yml + 11) + rm.locals ≤ R.locals) (hcl : cells + rm.cells ≤ R.cells) (hsl : slots + rm.slots ≤ R.slots) (pc' : Nat) (hp : pc + 3 = pc')
    (k : ∀ (T' : State) (L : List Loc) (v : Option Value) (vm1 : Vm), Stand p l e R (s.setVm vm1) m args below meth c T' (locs ++ L) (cells + rm.cells) (slots + rm.slots) → s.Since vm1 T'.heap.size → Z.Warmed39 (s.setVm vm1).vm → (s.setVm vm1).vm.findClass own = some m.cls → Qc v T'.heap L → Go p e below G T' (mkF m pc' Ls (v.toList ++ st))) : Go p e below G T (mkF m pc Ls (argsL.reverse ++ st)) := by
  subst hp
  subst has
  have w4s : (Jvm.Cond.code y yb yml yrt).before args (s.setVm vm0) = true := mvT hZ w4
  obtain ⟨mk, hnm⟩ := Cond.code_named w4s
  obtain ⟨mm, cc, hmm, -, -, -, -, -, -, hsg⟩ := Cond.code_spec hnm w4s
  obtain ⟨v, vm₁, ⟨T1, L1, k1, n1⟩, -, X1, hS1, g1, ⟨Lc, hQ, l1, y1, z1⟩, st1⟩ := X.staticBackS hx (y := y) hown (mvT hZ w1) (mvT hZ w2) (mvT hZ w3) hnm hmm hsg hy (backOfS (W := W) (hM []) hZ w4 w3 hf hl) (g := mkF m pc Ls (argsL.reverse ++ st)) rfl hml (Steps.refl _) (argsL := argsL) (rest := st) (lenOf hpd hlen) rfl (by show 2 * 0 + _ ≤ _; omega) (hb hby hd) (fun _ _ => ⟨rfl, eT, hcl, hsl⟩)
  dsimp only [Pt.U, Pt.locs, Pt.cells, Pt.slots] at X1 l1 y1 z1 st1 hQ hS1 g1
  subst l1 y1 z1
  obtain ⟨X2, hS2, hZ2, hown2⟩ := rebS hS (eT ▸ hk) X1 hS1 g1 hZ hown
  exact Go.by (fun t q => st1.trans q) (k T1 Lc v _ X2 hS2 hZ2 hown2 hQ)
theorem own_retAW {Q : Option Value → Heap → List Loc → Prop} {kc ks k0 : Nat} {w : Value} {t : FieldType} (X : Stand p l e R (s.setVm vm0) m args below meth c T locs cells slots) (hx : p.tables.exec = Jvm.exec) (hby : c.code = bs) (hS : s.Since vm0 k0) (hk : k0 ≤ T.heap.size) (hret : meth.sig.returnType = some t) (hlk : meth.locks = false) (ht : t.isReference = true) (hw : w.isRef = true) (hn : narrow t w = w) (hd : decode bs pc = .ok (.areturn, 1)) (hc : cells ≤ kc) (hs : slots ≤ ks) (hQ : Q (some w) T.heap locs) : Go p e below (FinW s Q kc ks) T (mkF m pc Ls (w :: st)) := by
  refine own_leaveW X hS hk (fun q => by rw [hret] at q; cases q) hlk hc hs hQ fun fs hr => ?_
  exact retOut X hx hret hn (Or.inr (Or.inr (Or.inr (Or.inr ⟨rfl, ht, hw⟩)))) (hb hby hd) hr
theorem own_newU (X : Stand p l e R s m args below meth c T locs cells slots) (hx : p.tables.exec = Jvm.exec) (hby : c.code = bs) (hZ : Z.Warmed39 s.vm) {own C : String} {idx n : Nat} (hown : s.vm.findClass own = some m.cls) (w : (Jvm.Cond.classLink own idx C).before a0 Z = true) (wi : (Jvm.Cond.instantiable C n).before a0 Z = true) (wz : (Jvm.Cond.initialized C).before a0 Z = true) (eT : T.heap = h) (hd : decode bs pc = .ok (.new idx, 3)) (hcl : cells + 1 ≤ R.cells) (hsl : slots + n ≤ R.slots) (pc' : Nat) (hp : pc + 3 = pc') (k : ∀ T' h' (b : Addr), b = h.size → Stand p l e R s m args below meth c T' locs (cells + 1) (slots + n) → T'.heap = h' → Ext h h' → Exa Z h' b C → (∀ {O nm d : String} {ty : FieldType}, Laid Z a0 C O nm d → parseFieldDescriptor d = some ty → Fld Z h' b O nm d (defaultValue ty)) → Unt h' b → Go p e below G T' (mkF m pc' Ls (.ref b :: st))) : Go p e below G T (mkF m pc Ls st) := by
  subst hp
  obtain ⟨T1, h1, X1, e1, E1, A1, D1, U1, st1⟩ := newO X hx hZ hown w wi wz eT (g := mkF m pc Ls st) rfl (hb hby hd) hcl hsl
  exact Go.by (fun t q => st1 t q) (k T1 h1 _ rfl X1 e1 E1 A1 D1 U1)
/-- a body that has written into a alone: what it has kept -/
theorem own_keepS {h0 : Heap} {a : Addr} (X : Stand p l e R s m args below meth c T locs cells slots) (hs : s.heap = h0) (eT : T.heap = h) (hB : ∀ x ∈ locs, x.base = a) : Keep h0 h [a] := by
  subst hs
  subst eT
  obtain ⟨-, h1, -, -, -, h2⟩ := X.same
  refine ⟨h1, fun x cl q hx => ?_, fun x cl q => ?_⟩
  · obtain ⟨c', q1, q2, -, q4⟩ := h2 x cl q
    have e1 : c'.slots = cl.slots := Array.ext_getElem? fun i => q4 i fun hm => hx (List.mem_singleton.mpr (hB _ hm))
    have e2 : c' = cl := by rw [q2, e1]
    rw [← e2]
    exact q1
  · obtain ⟨c', q1, q2, q3, -⟩ := h2 x cl q
    exact ⟨c', q1, by rw [q2], by rw [q2], q3⟩
theorem own_untS {h0 : Heap} {a : Addr} (X : Stand p l e R s m args below meth c T locs cells slots) (hs : s.heap = h0) (eT : T.heap = h) (N : Unt h0 a) : Unt h a := by
  subst hs
  subst eT
  obtain ⟨-, -, -, -, -, h2⟩ := X.same
  obtain ⟨cl, u1, u2, u3⟩ := N
  obtain ⟨c', q1, q2, -, -⟩ := h2 a cl u1
  exact ⟨c', q1, by rw [q2]; exact u2, by rw [q2]; exact u3⟩
theorem own_bs0 {a : Addr} : ∀ x ∈ ([] : List Loc), x.base = a := fun _ q => nomatch q
theorem own_bs1 {a : Addr} {i : Nat} (hB : ∀ x ∈ locs, x.base = a) : ∀ x ∈ locs ++ [⟨a, i⟩], x.base = a := fun x q => by
  rcases List.mem_append.mp q with q | q
  · exact hB x q
  · rw [List.mem_singleton.mp q]
theorem own_bs3 {a : Addr} {i j k : Nat} (hB : ∀ x ∈ locs, x.base = a) : ∀ x ∈ locs ++ [⟨a, i⟩, ⟨a, j⟩, ⟨a, k⟩], x.base = a := fun x q => by
  rcases List.mem_append.mp q with q | q
  · exact hB x q
  · simp only [List.mem_cons, List.not_mem_nil, or_false] at q
    rcases q with q | q | q <;> rw [q]
theorem own_frB {a : Addr} {n0 : Nat} (hB : ∀ x ∈ locs, x.base = a) (g : n0 ≤ a) : Fr n0 locs := fun x q => by
  rw [hB x q]
  exact g
/-- a static field's link, at a later state of the tables -/
theorem own_stat {pl : Platform} {n d : String} {ix cc : Nat} {k : Class} (hZ : Z.Warmed39 s.vm) (hpl : pl.magicAccessors = ({} : Platform).magicAccessors) (hc : s.vm.findClass "java/lang/Throwable" = some cc) (hk : s.vm.classes[cc]? = some k) (wl : (Jvm.Cond.laysStatic "java/lang/Throwable" n d).before a0 Z = true) (wf : (Jvm.Cond.fieldLink "java/lang/Throwable" ix "java/lang/Throwable" n d).before args s = true) :
    ∃ ci i f a, s.vm.FieldLinks pl cc ix ci cc i ∧ s.rightAt cc ix (.field cc i) = true ∧ k.fields[i]? = some f ∧ f.isStatic = true ∧ k.statics = some a ∧ s.fieldFound? "java/lang/Throwable" n d = some (cc, k, i, f) := by
  obtain ⟨ci, c1, k1, i, f, hf, hl, hr⟩ := Cond.fieldLink_spec hc wf pl hpl
  obtain ⟨cz, kz, iz, fz, az, _, hcz, hfz, hsz, hsa, -⟩ := Cond.laysStatic_spec wl
  obtain ⟨kz', hfz', ek⟩ := State.fieldFound?_setVm hZ.alike hfz
  have q := Option.some.inj ((show s.fieldFound? "java/lang/Throwable" n d = _ from hfz').symm.trans hf)
  simp only [Prod.mk.injEq] at q
  obtain ⟨q1, q2, q3, q4⟩ := q
  have q5 : s.vm.findClass "java/lang/Throwable" = some cz := by rw [hZ.alike.findClass]; exact hcz
  have q6 : cz = cc := Option.some.inj (q5.symm.trans hc)
  obtain ⟨hk1, hat⟩ := State.fieldFound?_spec hf
  have q7 : c1 = cc := q1.symm.trans q6
  subst q7
  have q8 : k1 = k := Option.some.inj (hk1.symm.trans hk)
  subst q8
  refine ⟨ci, i, f, az, hl, hr, hat, ?_, ?_, hf⟩
  · rw [← q4]; exact hsz
  · rw [← q2, ek]; exact hsa
/-- what the fill law asks of the tables: without the word that says where Throwable's own layout has 'suppressedExceptions' (the sheet hasn't got it) -/
theorem own_links {pl : Platform} (hw : ∀ d ∈ tables_1, d.before a0 Z = true) (hZ : Z.Warmed39 s.vm) (howns : pl.frameOwnsMonitors = true) (hfin : pl.finalization = false) (hpl : pl.magicAccessors = ({} : Platform).magicAccessors) :
    ∃ Th : ThrowableC, Th.Links pl s ∧ s.vm.findClass "java/lang/Throwable" = some Th.cT ∧ s.methodNamed? Bundle.tFill = some Th.fill ∧ s.methodNamed? Bundle.tFill0 = some Th.fill0 ∧ s.fieldFound? "java/lang/Throwable" "stackTrace" "[Ljava/lang/StackTraceElement;" = some (Th.cT, Th.kT, Th.i17, Th.fStack) ∧ s.fieldFound? "java/lang/Throwable" "UNASSIGNED_STACK" "[Ljava/lang/StackTraceElement;" = some (Th.cT, Th.kT, Th.i13, Th.fUnassigned) ∧ Th.fStack.type = .array (.object "java/lang/StackTraceElement") := by
  have B : ∀ {d : Jvm.Cond}, d.before #[] s = true → d.holds #[] s none s [] = true := fun q => q
  obtain ⟨⟨cc, i0⟩, m0, n0, q0, nat0, cod0, lk0, sg0⟩ := Cond.native_spec (B (show (Jvm.Cond.native Bundle.tFill0).before #[] s = true from mvT hZ (hw _ (List.mem_of_getElem? (i := 82) rfl))))
  have hc : s.vm.findClass "java/lang/Throwable" = some cc := findClass_of_methodNamed n0
  obtain ⟨k, hk, hname⟩ := Vm.findClass_spec hc
  have hinit := Cond.initialized_spec hc hk (B (mvT hZ (hw _ (List.mem_of_getElem? (i := 61) rfl))))
  obtain ⟨_, k1, _, _, hk1, _, _, _, _, hni⟩ := Cond.superclass_spec hc (B (mvT hZ (hw _ (List.mem_of_getElem? (i := 79) rfl))))
  have ek : k = k1 := Option.some.inj (hk.symm.trans hk1)
  subst ek
  obtain ⟨iF, mF, nF, qF, atF, stF, abF, -, -⟩ := Cond.ownMethod (x := Bundle.tFill) hc hk (B (mvT hZ (hw _ (List.mem_of_getElem? (i := 74) rfl))))
  obtain ⟨mF', cF, qF', cdF, byF, mlF, rtF, lkF, -, sgF⟩ := Cond.codeSync_spec nF (B (show (Jvm.Cond.codeSync Bundle.tFill LibCode.Throwable.Fill.code 1 (some (.object Bundle.tN))).before #[] s = true from mvT hZ (hw _ (List.mem_of_getElem? (i := 80) rfl))))
  have eF : mF = mF' := Option.some.inj (qF.symm.trans qF')
  subst eF
  obtain ⟨i1, m1, n1, q1, at0, st0, ab0, nm0, ds0⟩ := Cond.ownMethod (x := Bundle.tFill0) hc hk (B (mvT hZ (hw _ (List.mem_of_getElem? (i := 81) rfl))))
  have ei : i0 = i1 := by
    have q := Option.some.inj (n0.symm.trans n1)
    simpa using q
  subst ei
  have em : m0 = m1 := Option.some.inj (q0.symm.trans q1)
  subst em
  obtain ⟨mO, xO, nO, qO, stO, abO⟩ := Cond.instanceMethod_spec (B (show (Jvm.Cond.instanceMethod Bundle.oInit).before #[] s = true from mvT hZ (hw _ (List.mem_of_getElem? (i := 25) rfl))))
  obtain ⟨xO', cO, qO', cdO, byO, mlO, -, lkO, -, sgO⟩ := Cond.code_spec nO (B (show (Jvm.Cond.code Bundle.oInit ⟨#[0xb1]⟩ 1 none).before #[] s = true from mvT hZ (hw _ (List.mem_of_getElem? (i := 26) rfl))))
  have eO : xO = xO' := Option.some.inj (qO.symm.trans qO')
  subst eO
  obtain ⟨kO, hkO, nmKO⟩ := Vm.findClass_spec (findClass_of_methodNamed nO)
  obtain ⟨nmO, dsO⟩ := name_of_methodNamed nO qO
  obtain ⟨ci1, j1, cf, l1, r1, hcf, p1⟩ := Cond.linkedMethod hc hk nO (B (mvT hZ (hw _ (List.mem_of_getElem? (i := 63) rfl)))) pl hpl
  obtain ⟨ci27, j27, cf2, l27, r27, hcf2, p27⟩ := Cond.linkedMethod hc hk nF (B (mvT hZ (hw _ (List.mem_of_getElem? (i := 72) rfl)))) pl hpl
  have ec2 : cf = cf2 := Option.some.inj (hcf.symm.trans hcf2)
  subst ec2
  obtain ⟨ci202, j202, cf3, l202, r202, hcf3, p202⟩ := Cond.linkedMethod hc hk n0 (B (mvT hZ (hw _ (List.mem_of_getElem? (i := 85) rfl)))) pl hpl
  have ec3 : cf = cf3 := Option.some.inj (hcf.symm.trans hcf3)
  subst ec3
  obtain ⟨ci7, i7, f7, l7, g7, a7, s7, y7, -, -, -⟩ := Cond.ownField (t := .object "java/lang/Throwable") hc hk (by decide +kernel) (B (mvT hZ (hw _ (List.mem_of_getElem? (i := 64) rfl)))) (B (mvT hZ (hw _ (List.mem_of_getElem? (i := 86) rfl)))) pl hpl
  obtain ⟨ci17, i17, f17, l17, g17, a17, s17, y17, nm17, ty17, ff17⟩ := Cond.ownField (t := .array (.object "java/lang/StackTraceElement")) hc hk (by decide +kernel) (B (mvT hZ (hw _ (List.mem_of_getElem? (i := 67) rfl)))) (B (mvT hZ (hw _ (List.mem_of_getElem? (i := 87) rfl)))) pl hpl
  obtain ⟨ci24, i24, f24, l24, g24, a24, s24, y24, nm24, -, ff24⟩ := Cond.ownField (t := .object "java/util/List") hc hk (by decide +kernel) (B (mvT hZ (hw _ (List.mem_of_getElem? (i := 70) rfl)))) (B (mvT hZ (hw _ (List.mem_of_getElem? (i := 71) rfl)))) pl hpl
  obtain ⟨ci13, i13, f13, aS, l13, g13, a13, s13, sta, ff13⟩ := own_stat (args := #[]) hZ hpl hc hk (hw _ (List.mem_of_getElem? (i := 92) rfl)) (mvT hZ (hw _ (List.mem_of_getElem? (i := 66) rfl)))
  obtain ⟨ci20, i20, f20, aS2, l20, g20, a20, s20, -, -⟩ := own_stat (args := #[]) hZ hpl hc hk (hw _ (List.mem_of_getElem? (i := 93) rfl)) (mvT hZ (hw _ (List.mem_of_getElem? (i := 69) rfl)))
  obtain ⟨cX, kX, fX, hkX, -⟩ := Cond.instantiable_spec (B (mvT hZ (hw _ (List.mem_of_getElem? (i := 9) rfl))))
  obtain ⟨-, dS, hdS, hnS⟩ := Cond.laysAt fX hkX ff17 (B (mvT hZ (hw _ (List.mem_of_getElem? (i := 68) rfl))))
  obtain ⟨-, dP, hdP, hnP⟩ := Cond.laysAt fX hkX ff24 (B (mvT hZ (hw _ (List.mem_of_getElem? (i := 71) rfl))))
  have sP : f17.slot ≠ f24.slot := Cond.laysApart hdS hdP hnS hnP (by rw [nm17, nm24]; decide)
  have pF : mF.sig.parameters = [] := by
    have q : (parseMethodDescriptor Bundle.tFill.desc).map (·.parameters) = some [] := by decide +kernel
    rw [sgF] at q
    simpa using q
  have p0 : m0.sig.parameters = [.int] := by
    have q : (parseMethodDescriptor Bundle.tFill0.desc).map (·.parameters) = some [.int] := by decide +kernel
    rw [sg0] at q
    simpa using q
  have pO : xO.sig.parameters.length = 0 := by
    have q : (parseMethodDescriptor Bundle.oInit.desc).map (·.parameters) = some [] := by decide +kernel
    rw [sgO] at q
    have q2 : xO.sig.parameters = [] := by simpa using q
    rw [q2]
    rfl
  refine ⟨{ cT := cc, kT := k, cO := cc, aS := aS, fillIdx := iF, fill0Idx := i0, initSIdx := iF, obj := mO, kObj := kO, methFill := mF, methFill0 := m0, methInitS := mF, methObj := xO, codeFill := cF, codeInitS := cF, codeObj := cO, fBack := f7, fDepth := f7, fStack := f17, fCause := f7, fSupp := f24, fMsg := f7, fUnassigned := f13, fSentinel := f20, cfT := cf, ci1 := ci1, n1 := j1, ci27 := ci27, n27 := j27, ci202 := ci202, n202 := j202, ci7 := ci7, i7 := i7, ci13 := ci13, i13 := i13, ci17 := ci17, i17 := i17, ci20 := ci20, i20 := i20, ci24 := ci24, i24 := i24 }, ?_, hc, nF, n0, ff17, ff13, ty17⟩
  exact { owns := howns, noFinalization := hfin, cls := hk, name := hname, boot := Vm.findClass_boot hc hk, notInterface := hni, initialized := hinit, statics := sta, fillAt := atF, fillCode := cdF, fillBytes := byF, fillLocals := mlF, fillLocks := lkF, fillStatic := stF, fillAbstract := abF, fillReturns := rtF, fillParams := pF, fill0At := at0, fill0Name := nm0, fill0Desc := ds0, fill0Params := p0, fill0Static := st0, fill0Native := nat0, fill0Code := cod0, fill0Locks := lk0, fill0Abstract := ab0, stackInstance := s17, stackNotFinal := y17, unassignedStatic := s13, objClass := hkO, objClassName := nmKO, objMethod := qO, objName := nmO, objStatic := stO, objAbstract := abO, objFound := by rw [dsO]; exact lookupSpecial_of_named nO qO stO, objParams := pO, objCode := cdO, objBytes := byO, objLocks := lkO, causeInstance := s7, causeNotFinal := y7, sentinelStatic := s20, suppInstance := s24, suppNotFinal := y24, msgInstance := s7, msgNotFinal := y7, stackApartSupp := sP, file := hcf, mlink1 := l1, mright1 := r1, pool1 := p1, mlink27 := l27, mright27 := r27, pool27 := p27, mlink202 := l202, mright202 := r202, pool202 := p202, link7 := l7, right7 := g7, at7 := a7, link13 := l13, right13 := g13, at13 := a13, link17 := l17, right17 := g17, at17 := a17, link20 := l20, right20 := g20, at20 := a20, link24 := l24, right24 := g24, at24 := a24 }
/-- fillInStackTrace() on an exception that is being made -/
theorem own_fill (X : Stand p l e R s m args below meth c T locs cells slots) (hx : p.tables.exec = Jvm.exec) (hby : c.code = bs) (hst : l.stackTraces = true) (hw : ∀ d ∈ tables_1, d.before a0 Z = true) (hZ : Z.Warmed39 s.vm) (hown : s.vm.findClass "java/lang/Throwable" = some m.cls) (eT : T.heap = h) {a : Addr} (E : Exa Z h a "com/example/inflight/inflight/ApiException") (N : Unt h a) {u : Value} (hu : u.isRef = true) (Fs : Fld Z h a "java/lang/Throwable" "stackTrace" "[Ljava/lang/StackTraceElement;" u) (Fb : Fld Z h a "java/lang/Throwable" "backtrace" "Ljava/lang/Object;" .null) (SU : Sta Z h "java/lang/Throwable" "UNASSIGNED_STACK" "[Ljava/lang/StackTraceElement;" u) (hTK : s.vm.MethodsKnown) (hBelow : s.vm.FramesKnown below) (hml : Ls.size = c.maxLocals) (hd : decode bs pc = .ok (.invokevirtual 27, 3)) (hf : 3 ≤ R.frames) (W : Nat) (hW : (st.map fun v => v.category).sum = W) (hl : W + 42 ≤ R.locals) (hcl : cells + 1 ≤ R.cells) (hsl : slots + 2752 ≤ R.slots) (pc' : Nat) (hp : pc + 3 = pc')
    (k : ∀ (T' : State) (h' : Heap) (i1 i2 i3 : Nat), Stand p l e R s m args below meth c T' (locs ++ [⟨a, i1⟩, ⟨a, i2⟩, ⟨a, i3⟩]) (cells + 1) (slots + 2752) → T'.heap = h' → Go p e below G T' (mkF m pc' Ls (.ref a :: st))) : Go p e below G T (mkF m pc Ls (.ref a :: st)) := by
  subst hp
  have htr : e.platform.stackTraces = true := by rw [X.admits.platform]; exact hst
  have howns : e.platform.frameOwnsMonitors = true := by rw [X.admits.platform]
  have hfin : e.platform.finalization = false := by rw [X.admits.platform]
  have hpl : e.platform.magicAccessors = ({} : Platform).magicAccessors := by rw [X.admits.platform]
  have B : ∀ {d : Jvm.Cond}, d.before args s = true → d.holds args s none s [] = true := fun q => q
  obtain ⟨Th, L, hT, hF, hF0, ffS, ffU, tyS⟩ := own_links hw hZ howns hfin hpl
  obtain ⟨cell, e1, e2, e3⟩ := N
  obtain ⟨cell', kE, x1, x2, x3, -, x5⟩ := E
  have ec : cell' = cell := Option.some.inj (x1.symm.trans e1)
  rw [ec] at x2 x3 x5
  obtain ⟨kX, hkX, ekX⟩ := hZ.alike.2.2 _ _ x3
  have hfound : s.vm.findClass "com/example/inflight/inflight/ApiException" = some cell.cls := by rw [hZ.alike.findClass]; exact x2
  obtain ⟨c1, k1, y1, y2, y3, -⟩ := Cond.instantiable_spec (show (Jvm.Cond.instantiable "com/example/inflight/inflight/ApiException" 7).before a0 Z = true from (hw _ (List.mem_of_getElem? (i := 9) rfl)))
  have ey1 : c1 = cell.cls := Option.some.inj (y1.symm.trans x2)
  rw [ey1] at y2
  have ey2 : k1 = kE := Option.some.inj (y2.symm.trans x3)
  rw [ey2] at y3
  have hord : kX.kind = .ordinary := by rw [ekX]; exact y3
  have hsz : cell.slots.size = kX.instanceTypes.size := by rw [ekX]; exact x5 y3
  obtain ⟨cs, _, ks, is, fs, z1, z2, -, -, -, -, z7⟩ := Fs
  have es : cs = cell := Option.some.inj (z1.symm.trans e1)
  rw [es] at z7
  obtain ⟨ks', z3, -⟩ := State.fieldFound?_setVm hZ.alike z2
  have z4 := Option.some.inj ((show s.fieldFound? "java/lang/Throwable" "stackTrace" "[Ljava/lang/StackTraceElement;" = _ from z3).symm.trans ffS)
  simp only [Prod.mk.injEq] at z4
  rw [z4.2.2.2] at z7
  obtain ⟨ci198, i198, fB, l198, g198, a198, s198, -, nB, tB, ffB⟩ := Cond.ownField (t := .object "java/lang/Object") hT L.cls (by decide +kernel) (B (mvT hZ (hw _ (List.mem_of_getElem? (i := 90) rfl)))) (B (mvT hZ (hw _ (List.mem_of_getElem? (i := 91) rfl)))) e.platform hpl
  obtain ⟨cb, _, kb, ib, fb, b1, b2, -, -, -, -, b7⟩ := Fb
  have eb : cb = cell := Option.some.inj (b1.symm.trans e1)
  rw [eb] at b7
  obtain ⟨kb', b3, -⟩ := State.fieldFound?_setVm hZ.alike b2
  have b4 := Option.some.inj ((show s.fieldFound? "java/lang/Throwable" "backtrace" "Ljava/lang/Object;" = _ from b3).symm.trans ffB)
  simp only [Prod.mk.injEq] at b4
  rw [b4.2.2.2] at b7
  have wD : (Jvm.Cond.lays "com/example/inflight/inflight/ApiException" "java/lang/Throwable" "depth" "I").before args s = true := mvT hZ (hw _ (List.mem_of_getElem? (i := 97) rfl))
  obtain ⟨_, _, cD, kD, iD, fD, -, -, ffD, sD, -, -, -, -⟩ := Cond.lays_spec (B wD)
  cases Option.some.inj ((Cond.lays_declared (B wD) ffD).symm.trans hT)
  obtain ⟨hkD, hatD⟩ := State.fieldFound?_spec ffD
  cases Option.some.inj (hkD.symm.trans L.cls)
  obtain ⟨nD, tD⟩ := State.fieldFound?_type ffD (t := .int) (by decide +kernel)
  have hfb := Cond.soleField_find hT L.cls (B (mvT hZ (hw _ (List.mem_of_getElem? (i := 77) rfl)))) a198 nB s198
  have hfd := Cond.soleField_find hT L.cls (B (mvT hZ (hw _ (List.mem_of_getElem? (i := 78) rfl)))) hatD nD sD
  obtain ⟨comp, cO, kO, -, -, hkO, hkindO, hO⟩ := Cond.arrayOver_spec (B (Cond.arrayOver_alike hZ.alike (hw _ (List.mem_of_getElem? (i := 76) rfl))))
  obtain ⟨tyS', -⟩ := Cond.laysAt hfound hkX ffS (B (mvT hZ (hw _ (List.mem_of_getElem? (i := 68) rfl))))
  obtain ⟨tyB, -⟩ := Cond.laysAt hfound hkX ffB (B (mvT hZ (hw _ (List.mem_of_getElem? (i := 96) rfl))))
  obtain ⟨tyD, -⟩ := Cond.laysAt hfound hkX ffD (B wD)
  have tk : ∀ {f : Field} {v : Value}, kX.instanceTypes[f.slot]? = some f.type → fits f.type v = true → Jvm.Takes s cell f v := fun {f v} h1 h2 => by
    obtain ⟨q1, q2⟩ := Takes.of_laid (v := v) hkX hord h1 h2
    exact ⟨by rw [hsz]; simpa using q1, by rw [e2]; exact q2⟩
  obtain ⟨cu, iu, ku, fu, stA, cellS, w1, w2, w3, w4, w5, w6, w7⟩ := SU
  obtain ⟨ku', w8, eku⟩ := State.fieldFound?_setVm hZ.alike w1
  have w9 := Option.some.inj ((show s.fieldFound? "java/lang/Throwable" "UNASSIGNED_STACK" "[Ljava/lang/StackTraceElement;" = _ from w8).symm.trans ffU)
  simp only [Prod.mk.injEq] at w9
  rw [w9.2.2.2] at w7
  have hsA : stA = Th.aS := by
    have q := L.statics
    rw [← w9.2.1, eku] at q
    exact Option.some.inj (w4.symm.trans q)
  rw [hsA] at w5
  have hneS : Th.aS ≠ a := fun q => by
    rw [q] at w5
    have eS : cellS = cell := Option.some.inj (w5.symm.trans e1)
    rw [eS, e2] at w6
    cases w6
  have hsel0 : selectMethod e.platform s.vm cell.cls Th.fill0 = .method Th.fill0 := by
    obtain ⟨c2, r2, m2, q1, q2, q3, q4, -⟩ := Cond.selects_spec (B (show (Jvm.Cond.selects "com/example/inflight/inflight/ApiException" Bundle.tFill0 Bundle.tFill0).before args s = true from mvT hZ (hw _ (List.mem_of_getElem? (i := 94) rfl))))
    cases Option.some.inj (q1.symm.trans hfound)
    cases Option.some.inj (q2.symm.trans (State.methodFound?_of_named hF0 (by decide)))
    cases Option.some.inj (q3.symm.trans hF0)
    rw [Launch.admits_selectMethod X.admits]
    exact q4
  have hSE : (Jvm.Cond.selects "com/example/inflight/inflight/ApiException" Bundle.tFill Bundle.tFill).before args s = true := mvT hZ (hw _ (List.mem_of_getElem? (i := 75) rfl))
  obtain ⟨v6, vm6, ⟨T6, L6, c6, n6⟩, hW6, X6, ⟨hv6, C6, n, hn, hD6, -, -, -, -, hL6, hc6, hn6⟩, come⟩ := X.virtualBack hx (own := "java/lang/Throwable") (C := "com/example/inflight/inflight/ApiException") (index := 27) (y := Bundle.tFill) (z := Bundle.tFill) hown (mvT hZ (hw _ (List.mem_of_getElem? (i := 72) rfl))) (mvT hZ (hw _ (List.mem_of_getElem? (i := 73) rfl))) (notFace_of_selects hSE) hSE (mvT hZ (hw _ (List.mem_of_getElem? (i := 74) rfl))) (by decide)
    (Jvm.Free.Exc.fillPaysAny (l := l) (W := W) hx htr Th L hF (u0 := ⟨u, hu⟩) (self := a) (cell := cell) (cellS := cellS) (fun _ => by rw [e2]; simp) (by rw [e2]; simp) (by rw [e3]) (by rw [e3]) z7 hsel0 hneS (fun q => by rw [q] at w6; cases w6) w7 (tk tyS' (by rw [tyS]; exact fits_refV_array _ ⟨u, hu⟩))
      ⟨{ ci198 := ci198, i198 := i198, fBack := fB }, ⟨l198, g198, a198, s198⟩, b7⟩ hTK hBelow hT hO hkO hkindO hfb hfd
      (fun x => tk tyB (by rw [tB]; rfl)) (fun x => tk tyD (by rw [tD]; rfl)) (by omega) hl)
    (b := a) (cB := cell.cls) hfound ⟨cell, by rw [eT]; exact e1, rfl, by rw [e2]; rfl⟩ (g := mkF m pc Ls (.ref a :: st)) rfl hml (Steps.refl _) (argsL := []) (rest := st)
    (fun sig q => by rw [show parseMethodDescriptor Bundle.tFill.desc = some ⟨[], some (.object Bundle.tN)⟩ from by decide +kernel] at q; rw [← Option.some.inj q]; rfl) rfl (by show 2 * 0 + _ ≤ _; omega) (hb hby hd)
    (fun vmx _ => ⟨rfl, hcl, hsl, by show T.heap[a]? = _; rw [eT]; exact e1, by show T.heap[Th.aS]? = _; rw [eT]; exact w5⟩)
  dsimp only [Pt.U, Pt.locs, Pt.cells, Pt.slots] at X6 hL6 hc6 hn6 come
  subst hv6 hL6 hc6 hn6
  exact Go.by (fun t q => come.trans q) (k T6 _ _ _ _ (X6.more (Nat.le_refl _) (Nat.add_le_add_left hn _)) rfl)
end OwnExc

theorem own_wS {Z : State} {a0 : Array Value} (hw : ∀ d ∈ tables_1, d.before a0 Z = true) : ∀ a ∈ Bundle.stringAtoms, a.before a0 Z = true := fun d hd => by
  simp only [Bundle.stringAtoms, List.mem_cons, List.not_mem_nil, or_false] at hd
  rcases hd with rfl | rfl | rfl | rfl | rfl | rfl | rfl
  · exact (hw _ (List.mem_of_getElem? (i := 16) rfl))
  · exact (hw _ (List.mem_of_getElem? (i := 15) rfl))
  · exact (hw _ (List.mem_of_getElem? (i := 32) rfl))
  · exact (hw _ (List.mem_of_getElem? (i := 42) rfl))
  · exact (hw _ (List.mem_of_getElem? (i := 40) rfl))
  · exact (hw _ (List.mem_of_getElem? (i := 101) rfl))
  · exact (hw _ (List.mem_of_getElem? (i := 102) rfl))
theorem ef_21 (a1 : Addr) (m : MethodId) : entryFrame m #[(.ref a1)] 1 = mkF m 0 #[.val (.ref a1)] [] := by first | (simp [entryFrame, mkF, argsToLocals, Value.category]; done) | rfl
def Q21 (Z : State) (a1 : Addr) (h0 : Heap) (n0 : Nat) (v : Option Value) (h : Heap) (L : List Loc) : Prop := v = none ∧ Fr n0 L ∧ h = h0
set_option maxRecDepth 65536 in
set_option maxHeartbeats 40000000 in
theorem rm21 (l : Launch) (Z : State) (a0 : Array Value) (hw : ∀ d ∈ tables_1, d.before a0 Z = true) (a1 : Addr) (h0 : Heap) (n0 : Nat) (Zs : n0 ≤ h0.size) :
    Met1 l Z (⟨"java/lang/Number", "<init>", "()V"⟩ : MethodName) jdk_18_method_1_code 1 none ({ frames := 1, cells := 0, slots := 0, locals := 12 } : Room) #[(.ref a1)] h0 (Q21 Z a1 h0 n0) := by
  refine own_met_of (plainFor_of_name pn_21) (ef_21 a1) ?_
  intro p e s m below meth c s₁ X hx hby hml hZ hown hnm hret hlk eT
  have hown : s.vm.findClass "java/lang/Number" = some m.cls := hown
  have N := Fr.nil n0
  refine own_aloadN X hx hby (.ref a1) d21_0 rfl rfl 1 rfl ?_
  refine own_initO X hx hby hZ hown (hw _ (List.mem_of_getElem? (i := 155) rfl)) (hw _ (List.mem_of_getElem? (i := 25) rfl)) (hw _ (List.mem_of_getElem? (i := 26) rfl)) eT (by rw [hml]; rfl) d21_1 (by decide) 0 rfl (by decide) 4 rfl ?_
  intro T1 X eT
  refine own_ret X hx hby hret hlk d21_4 (by decide) (by decide) ?_
  rw [eT]
  exact ⟨rfl, N, rfl⟩
theorem ef_20 (a1 : Addr) (p2 : Int32) (m : MethodId) : entryFrame m #[(.ref a1), (.int p2)] 2 = mkF m 0 #[.val (.ref a1), .val (.int p2)] [] := by first | (simp [entryFrame, mkF, argsToLocals, Value.category]; done) | rfl
def Q20 (Z : State) (a1 : Addr) (p2 : Int32) (w_value_a1 : Int32) (h0 : Heap) (n0 : Nat) (v : Option Value) (h : Heap) (L : List Loc) : Prop := v = none ∧ Fr n0 L ∧ Keep h0 h [a1] ∧ Exa Z h a1 "java/lang/Integer" ∧ Fld Z h a1 "java/lang/Integer" "value" "I" (.int p2)
set_option maxRecDepth 65536 in
set_option maxHeartbeats 40000000 in
theorem rm20 (l : Launch) (Z : State) (a0 : Array Value) (hw : ∀ d ∈ tables_1, d.before a0 Z = true) (a1 : Addr) (p2 : Int32) (w_value_a1 : Int32) (h0 : Heap) (n0 : Nat) (Zs : n0 ≤ h0.size) (E_a1 : Exa Z h0 a1 "java/lang/Integer") (F_value_a1 : Fld Z h0 a1 "java/lang/Integer" "value" "I" (.int w_value_a1)) (g_a1 : n0 ≤ a1) :
    Met1 l Z (⟨"java/lang/Integer", "<init>", "(I)V"⟩ : MethodName) jdk_33_method_23_code 2 none ({ frames := 2, cells := 0, slots := 0, locals := 24 } : Room) #[(.ref a1), (.int p2)] h0 (Q20 Z a1 p2 w_value_a1 h0 n0) := by
  refine own_met_of (plainFor_of_name pn_20) (ef_20 a1 p2) ?_
  intro p e s m below meth c s₁ X hx hby hml hZ hown hnm hret hlk eT
  have hown : s.vm.findClass "java/lang/Integer" = some m.cls := hown
  have N := Fr.nil n0
  have K := Keep.refl h0 [a1]
  refine own_aloadN X hx hby (.ref a1) d20_0 rfl rfl 1 rfl ?_
  refine own_callC X hx hby hZ (st := []) [] rfl rfl hown (hw _ (List.mem_of_getElem? (i := 149) rfl)) (hw _ (List.mem_of_getElem? (i := 150) rfl)) (hw _ (List.mem_of_getElem? (i := 153) rfl)) (hw _ (List.mem_of_getElem? (i := 154) rfl)) (by decide) d20_1 (rm21 l Z a0 hw a1 h0 n0 Zs ) eT pd_1 rfl (by rw [hml]; rfl) (by decide) 0 rfl (by decide) (by decide) (by decide) 4 rfl ?_
  intro T1 L9 v9 X hQ
  obtain ⟨rfl, N9, eT⟩ := hQ
  have N := Fr.app N N9
  show Go p e below _ T1 (mkF m 4 #[.val (.ref a1), .val (.int p2)] [])
  refine own_aloadN X hx hby (.ref a1) d20_4 rfl rfl 5 rfl ?_
  refine own_iloadN X hx hby p2 d20_5 rfl 6 rfl ?_
  refine own_putF X hx hby hZ hown (host := "") (Or.inl (hw _ (List.mem_of_getElem? (i := 156) rfl))) Via.refl eT F_value_a1 E_a1 (Or.inr ⟨(hw _ (List.mem_of_getElem? (i := 157) rfl)), rfl, hnm⟩) (hw _ (List.mem_of_getElem? (i := 144) rfl)) (ty := .int) (by decide) rfl rfl d20_6 9 rfl ?_
  intro T6 h6 X eT W
  have E_a1 := E_a1.wr W
  have F_value_a1 := F_value_a1.same W
  have N := Fr.snoc X N g_a1
  have K := K.wr W (Or.inl (List.mem_of_getElem? (i := 0) rfl))
  have Zs := Nat.le_trans Zs (Keep.of_wr W).1
  refine own_ret X hx hby hret hlk d20_9 (by decide) (by decide) ?_
  rw [eT]
  exact ⟨rfl, N, K, E_a1, F_value_a1⟩
theorem ef_1 (p1 : Int32) (m : MethodId) : entryFrame m #[(.int p1)] 1 = mkF m 0 #[.val (.int p1)] [] := by first | (simp [entryFrame, mkF, argsToLocals, Value.category]; done) | rfl
def Q1 (Z : State) (p1 : Int32) (u_cache : Addr) (fc : Nat → Value) (h0 : Heap) (n0 : Nat) (v : Option Value) (h : Heap) (L : List Loc) : Prop := ∃ (rr : Addr), v = some (.ref rr) ∧ Fr n0 L ∧ Keep h0 h [] ∧ Exa Z h rr "java/lang/Integer"
set_option maxRecDepth 65536 in
set_option maxHeartbeats 40000000 in
theorem rm1 (l : Launch) (Z : State) (a0 : Array Value) (hw : ∀ d ∈ tables_1, d.before a0 Z = true) (p1 : Int32) (u_cache : Addr) (fc : Nat → Value) (h0 : Heap) (n0 : Nat) (Zs : n0 ≤ h0.size) (A_cache : Afn Z h0 u_cache (.object "java/lang/Integer") 256 fc) (hfc : ∀ i, i < 256 → ∃ r : Addr, fc i = .ref r ∧ Exa Z h0 r "java/lang/Integer") (S_high : Sta Z h0 "java/lang/Integer$IntegerCache" "high" "I" (.int (127 : Int32))) (S_cache : Sta Z h0 "java/lang/Integer$IntegerCache" "cache" "[Ljava/lang/Integer;" (.ref u_cache)) :
    Met1 l Z (⟨"java/lang/Integer", "valueOf", "(I)Ljava/lang/Integer;"⟩ : MethodName) jdk_33_method_22_code 1 (some (.object "java/lang/Integer")) ({ frames := 3, cells := 1, slots := 1, locals := 38 } : Room) #[(.int p1)] h0 (Q1 Z p1 u_cache fc h0 n0) := by
  refine own_met_of (plainFor_of_name pn_20) (ef_1 p1) ?_
  intro p e s m below meth c s₁ X hx hby hml hZ hown hnm hret hlk eT
  have hown : s.vm.findClass "java/lang/Integer" = some m.cls := hown
  have N := Fr.nil n0
  have K := Keep.refl h0 []
  refine own_iloadN X hx hby p1 d1_0 rfl 1 rfl ?_
  refine own_bipush X hx hby (-128 : Int32) d1_1 rfl 3 rfl ?_
  refine own_icmp_lt X hx hby d1_3 23 6 (by decide) rfl (fun c3 => ?_) (fun c3 => ?_)
  · skip
    refine own_new X hx hby hZ hown (hw _ (List.mem_of_getElem? (i := 143) rfl)) (hw _ (List.mem_of_getElem? (i := 144) rfl)) (hw _ (List.mem_of_getElem? (i := 2) rfl)) eT d1_23 (by decide) (by decide) 26 rfl ?_
    intro T23 h23 b23 gb23 X eT Ex A D
    have g_b23 : n0 ≤ b23 := by rw [gb23]; exact Zs
    have sz_b23 : h0.size ≤ b23 := by rw [gb23]; exact K.1
    have E_b23 := A
    have F_value_b23 : Fld Z h23 b23 "java/lang/Integer" "value" "I" (.int (0 : Int32)) := D (Or.inr (hw _ (List.mem_of_getElem? (i := 157) rfl))) (ty := .int) (by decide)
    have K := K.ext Ex
    have Zs := Nat.le_trans Zs Ex.1
    refine own_dup X hx hby d1_26 rfl 27 rfl ?_
    refine own_iloadN X hx hby p1 d1_27 rfl 28 rfl ?_
    refine own_callC X hx hby hZ (st := [(.ref b23)]) [(.int p1)] rfl rfl hown (hw _ (List.mem_of_getElem? (i := 145) rfl)) (hw _ (List.mem_of_getElem? (i := 146) rfl)) (hw _ (List.mem_of_getElem? (i := 2) rfl)) (hw _ (List.mem_of_getElem? (i := 148) rfl)) (by decide) d1_28 (rm20 l Z a0 hw b23 p1 (0 : Int32) h23 n0 Zs E_b23 F_value_b23 g_b23) eT pd_5 rfl (by rw [hml]; rfl) (by decide) 1 rfl (by decide) (by decide) (by decide) 31 rfl ?_
    intro T28 L9 v9 X hQ
    obtain ⟨h28, eT⟩ : ∃ z, T28.heap = z := ⟨_, rfl⟩
    rw [eT] at hQ
    obtain ⟨rfl, N9, Kc, E_b23, F_value_b23⟩ := hQ
    have K := K.trans Kc (allS (Or.inr sz_b23) all0)
    have Zs := Nat.le_trans Zs Kc.1
    have N := Fr.app N N9
    show Go p e below _ T28 (mkF m 31 #[.val (.int p1)] [(.ref b23)])
    refine own_retA X hx hby hret hlk rfl rfl rfl d1_31 (by decide) (by decide) ?_
    rw [eT]
    exact ⟨b23, rfl, N, K, E_b23⟩
  · skip
    refine own_iloadN X hx hby p1 d1_6 rfl 7 rfl ?_
    refine own_getS X hx hby hZ hown (host := "") (Or.inl (hw _ (List.mem_of_getElem? (i := 4) rfl))) Via.refl eT S_high d1_7 10 rfl ?_
    intro T7 X eT
    refine own_icmp_gt X hx hby d1_10 23 13 (by decide) rfl (fun c10 => ?_) (fun c10 => ?_)
    · skip
      refine own_new X hx hby hZ hown (hw _ (List.mem_of_getElem? (i := 143) rfl)) (hw _ (List.mem_of_getElem? (i := 144) rfl)) (hw _ (List.mem_of_getElem? (i := 2) rfl)) eT d1_23 (by decide) (by decide) 26 rfl ?_
      intro T23 h23 b23 gb23 X eT Ex A D
      have g_b23 : n0 ≤ b23 := by rw [gb23]; exact Zs
      have sz_b23 : h0.size ≤ b23 := by rw [gb23]; exact K.1
      have E_b23 := A
      have F_value_b23 : Fld Z h23 b23 "java/lang/Integer" "value" "I" (.int (0 : Int32)) := D (Or.inr (hw _ (List.mem_of_getElem? (i := 157) rfl))) (ty := .int) (by decide)
      have K := K.ext Ex
      have Zs := Nat.le_trans Zs Ex.1
      refine own_dup X hx hby d1_26 rfl 27 rfl ?_
      refine own_iloadN X hx hby p1 d1_27 rfl 28 rfl ?_
      refine own_callC X hx hby hZ (st := [(.ref b23)]) [(.int p1)] rfl rfl hown (hw _ (List.mem_of_getElem? (i := 145) rfl)) (hw _ (List.mem_of_getElem? (i := 146) rfl)) (hw _ (List.mem_of_getElem? (i := 2) rfl)) (hw _ (List.mem_of_getElem? (i := 148) rfl)) (by decide) d1_28 (rm20 l Z a0 hw b23 p1 (0 : Int32) h23 n0 Zs E_b23 F_value_b23 g_b23) eT pd_5 rfl (by rw [hml]; rfl) (by decide) 1 rfl (by decide) (by decide) (by decide) 31 rfl ?_
      intro T28 L9 v9 X hQ
      obtain ⟨h28, eT⟩ : ∃ z, T28.heap = z := ⟨_, rfl⟩
      rw [eT] at hQ
      obtain ⟨rfl, N9, Kc, E_b23, F_value_b23⟩ := hQ
      have K := K.trans Kc (allS (Or.inr sz_b23) all0)
      have Zs := Nat.le_trans Zs Kc.1
      have N := Fr.app N N9
      show Go p e below _ T28 (mkF m 31 #[.val (.int p1)] [(.ref b23)])
      refine own_retA X hx hby hret hlk rfl rfl rfl d1_31 (by decide) (by decide) ?_
      rw [eT]
      exact ⟨b23, rfl, N, K, E_b23⟩
    · skip
      refine own_getS X hx hby hZ hown (host := "") (Or.inl (hw _ (List.mem_of_getElem? (i := 6) rfl))) Via.refl eT S_cache d1_13 16 rfl ?_
      intro T13 X eT
      refine own_iloadN X hx hby p1 d1_16 rfl 17 rfl ?_
      refine own_sipush X hx hby (128 : Int32) d1_17 rfl 20 rfl ?_
      refine own_iadd X hx hby d1_20 21 rfl ?_
      obtain ⟨r21, hr21, E_r21⟩ := hfc (Int32.toNatClampNeg (p1 + (128 : Int32))) (Jvm.Free.IntBox.place_ok p1 c3 c10).2
      refine own_aaload X hx hby hZ (.ref r21) eT A_cache rfl (Jvm.Free.IntBox.place_ok p1 c3 c10).1 hr21 d1_21 22 rfl ?_
      refine own_retA X hx hby hret hlk rfl rfl rfl d1_22 (by decide) (by decide) ?_
      rw [eT]
      exact ⟨r21, rfl, N, K, E_r21⟩
theorem ef_6 (a1 : Addr) (a3 : Addr) (m : MethodId) : entryFrame m #[(.ref a1), (.int (0 : Int32)), (.ref a3), (.int (0 : Int32)), (.int (1 : Int32))] 7 = mkF m 0 #[.val (.ref a1), .val (.int (0 : Int32)), .val (.ref a3), .val (.int (0 : Int32)), .val (.int (1 : Int32)), .unset, .unset] [] := by first | (simp [entryFrame, mkF, argsToLocals, Value.category]; done) | rfl
def Q6 (Z : State) (a1 : Addr) (a3 : Addr) (ar_a1 : Nat → Int32) (ar_a3 : Nat → Int32) (h0 : Heap) (n0 : Nat) (v : Option Value) (h : Heap) (L : List Loc) : Prop := v = some (.int (1 : Int32)) ∧ Fr n0 L ∧ Keep h0 h [a3] ∧ Afi Z h a3 .byte 1 (updI ar_a3 0 (nar .byte ((ar_a1 0).toInt8.toInt32))) ∧ Exa Z h a3 "[B"
set_option maxRecDepth 65536 in
set_option maxHeartbeats 40000000 in
theorem rm6 (l : Launch) (Z : State) (a0 : Array Value) (hw : ∀ d ∈ tables_1, d.before a0 Z = true) (a1 : Addr) (a3 : Addr) (ar_a1 : Nat → Int32) (ar_a3 : Nat → Int32) (h0 : Heap) (n0 : Nat) (Zs : n0 ≤ h0.size) (hc0 : ¬ (255 : Int32) < (ar_a1 0)) (A_a1 : Afi Z h0 a1 .char 1 ar_a1) (E_a1 : Exa Z h0 a1 "[C") (A_a3 : Afi Z h0 a3 .byte 1 ar_a3) (E_a3 : Exa Z h0 a3 "[B") (g_a1 : n0 ≤ a1) (g_a3 : n0 ≤ a3) :
    Met1 l Z (⟨"java/lang/StringUTF16", "compress", "([CI[BII)I"⟩ : MethodName) jdk_52_method_21_code 7 (some .int) ({ frames := 0, cells := 0, slots := 0, locals := 0 } : Room) #[(.ref a1), (.int (0 : Int32)), (.ref a3), (.int (0 : Int32)), (.int (1 : Int32))] h0 (Q6 Z a1 a3 ar_a1 ar_a3 h0 n0) := by
  refine own_met_of (plainFor_of_name pn_6) (ef_6 a1 a3) ?_
  intro p e s m below meth c s₁ X hx hby hml hZ hown hnm hret hlk eT
  have hown : s.vm.findClass "java/lang/StringUTF16" = some m.cls := hown
  have N := Fr.nil n0
  have K := Keep.refl h0 [a3]
  have ne_a1_a3 : a1 ≠ a3 := ne_exa E_a1 E_a3 (by decide)
  refine own_iconst X hx hby (0 : Int32) d6_0 rfl 1 rfl ?_
  refine own_istore X hx hby d6_1 rfl (l' := #[.val (.ref a1), .val (.int (0 : Int32)), .val (.ref a3), .val (.int (0 : Int32)), .val (.int (1 : Int32)), .val (.int (0 : Int32)), .unset]) rfl 3 rfl ?_
  refine own_iload X hx hby (0 : Int32) d6_3 rfl 5 rfl ?_
  refine own_iload X hx hby (1 : Int32) d6_5 rfl 7 rfl ?_
  have c7 : (0 : Int32) < (1 : Int32) := by decide
  refine own_icmp_ge X hx hby d6_7 44 10 (by decide) rfl (fun q => absurd c7 q) (fun _ => ?_)
  refine own_aloadN X hx hby (.ref a1) d6_10 rfl rfl 11 rfl ?_
  refine own_iloadN X hx hby (0 : Int32) d6_11 rfl 12 rfl ?_
  refine own_caload X hx hby hZ (ar_a1 0) eT A_a1 (by decide) rfl d6_12 13 rfl ?_
  refine own_istore X hx hby d6_13 rfl (l' := #[.val (.ref a1), .val (.int (0 : Int32)), .val (.ref a3), .val (.int (0 : Int32)), .val (.int (1 : Int32)), .val (.int (0 : Int32)), .val (.int (ar_a1 0))]) rfl 15 rfl ?_
  refine own_iload X hx hby (ar_a1 0) d6_15 rfl 17 rfl ?_
  refine own_sipush X hx hby (255 : Int32) d6_17 rfl 20 rfl ?_
  have c20 : ¬ (255 : Int32) < (ar_a1 0) := hc0
  refine own_icmp_le X hx hby d6_20 26 23 (by decide) rfl (fun _ => ?_) (fun q => absurd q c20)
  refine own_aloadN X hx hby (.ref a3) d6_26 rfl rfl 27 rfl ?_
  refine own_iloadN X hx hby (0 : Int32) d6_27 rfl 28 rfl ?_
  refine own_iload X hx hby (ar_a1 0) d6_28 rfl 30 rfl ?_
  refine own_i2b X hx hby d6_30 31 rfl ?_
  refine own_bastore X hx hby hZ eT A_a3 (by decide) d6_31 32 rfl ?_
  intro T31 h31 X eT W A
  have A_a1 := A_a1.other W ne_a1_a3
  have E_a1 := E_a1.wr W
  have E_a3 := E_a3.wr W
  have A_a3 : Afi Z h31 a3 .byte 1 (updI ar_a3 0 (nar .byte ((ar_a1 0).toInt8.toInt32))) := A
  have N := Fr.snoc X N g_a3
  have K := K.wr W (Or.inl (List.mem_of_getElem? (i := 0) rfl))
  have Zs := Nat.le_trans Zs (Keep.of_wr W).1
  refine own_iinc X hx hby d6_32 (x := (0 : Int32)) rfl (by decide) (l' := #[.val (.ref a1), .val (.int (1 : Int32)), .val (.ref a3), .val (.int (0 : Int32)), .val (.int (1 : Int32)), .val (.int (0 : Int32)), .val (.int (ar_a1 0))]) rfl 35 rfl ?_
  refine own_iinc X hx hby d6_35 (x := (0 : Int32)) rfl (by decide) (l' := #[.val (.ref a1), .val (.int (1 : Int32)), .val (.ref a3), .val (.int (1 : Int32)), .val (.int (1 : Int32)), .val (.int (0 : Int32)), .val (.int (ar_a1 0))]) rfl 38 rfl ?_
  refine own_iinc X hx hby d6_38 (x := (0 : Int32)) rfl (by decide) (l' := #[.val (.ref a1), .val (.int (1 : Int32)), .val (.ref a3), .val (.int (1 : Int32)), .val (.int (1 : Int32)), .val (.int (1 : Int32)), .val (.int (ar_a1 0))]) rfl 41 rfl ?_
  refine own_goto X hx hby d6_41 3 (by decide) ?_
  refine own_iload X hx hby (1 : Int32) d6_3 rfl 5 rfl ?_
  refine own_iload X hx hby (1 : Int32) d6_5 rfl 7 rfl ?_
  have c7_2 : ¬ (1 : Int32) < (1 : Int32) := by decide
  refine own_icmp_ge X hx hby d6_7 44 10 (by decide) rfl (fun _ => ?_) (fun q => absurd q c7_2)
  refine own_iload X hx hby (1 : Int32) d6_44 rfl 46 rfl ?_
  refine own_retI X hx hby hret hlk d6_46 (by decide) (by decide) ?_
  rw [eT]
  exact ⟨rfl, N, K, A_a3, E_a3⟩
theorem ef_5 (a1 : Addr) (m : MethodId) : entryFrame m #[(.ref a1), (.int (0 : Int32)), (.int (1 : Int32))] 6 = mkF m 0 #[.val (.ref a1), .val (.int (0 : Int32)), .val (.int (1 : Int32)), .unset, .unset, .unset] [] := by first | (simp [entryFrame, mkF, argsToLocals, Value.category]; done) | rfl
def Q5 (Z : State) (a1 : Addr) (ar_a1 : Nat → Int32) (h0 : Heap) (n0 : Nat) (v : Option Value) (h : Heap) (L : List Loc) : Prop := ∃ (b1 : Addr), v = some (.ref b1) ∧ Fr n0 L ∧ Keep h0 h [] ∧ h0.size ≤ b1 ∧ Afi Z h b1 .byte 1 (updI (fun _ => (0 : Int32)) 0 (nar .byte ((ar_a1 0).toInt8.toInt32))) ∧ Exa Z h b1 "[B"
set_option maxRecDepth 65536 in
set_option maxHeartbeats 40000000 in
theorem rm5 (l : Launch) (Z : State) (a0 : Array Value) (hw : ∀ d ∈ tables_1, d.before a0 Z = true) (a1 : Addr) (ar_a1 : Nat → Int32) (h0 : Heap) (n0 : Nat) (Zs : n0 ≤ h0.size) (hc0 : ¬ (255 : Int32) < (ar_a1 0)) (A_a1 : Afi Z h0 a1 .char 1 ar_a1) (E_a1 : Exa Z h0 a1 "[C") (g_a1 : n0 ≤ a1) :
    Met1 l Z (⟨"java/lang/StringUTF16", "compress", "([CII)[B"⟩ : MethodName) jdk_52_method_16_code 6 (some (.array .byte)) ({ frames := 1, cells := 1, slots := 1, locals := 18 } : Room) #[(.ref a1), (.int (0 : Int32)), (.int (1 : Int32))] h0 (Q5 Z a1 ar_a1 h0 n0) := by
  refine own_met_of (plainFor_of_name pn_6) (ef_5 a1) ?_
  intro p e s m below meth c s₁ X hx hby hml hZ hown hnm hret hlk eT
  have hown : s.vm.findClass "java/lang/StringUTF16" = some m.cls := hown
  have N := Fr.nil n0
  have K := Keep.refl h0 []
  refine own_iloadN X hx hby (1 : Int32) d5_0 rfl 1 rfl ?_
  refine own_newarray X hx hby hZ (hw _ (List.mem_of_getElem? (i := 32) rfl)) eT d5_1 (z := (1 : Int32)) (by decide) (n := 1) rfl (cap := 1) (by decide) (by decide) (by decide) (by decide) (ad := "[B") rfl 3 rfl ?_
  intro T1 h1 b1 gb1 X eT Ex A A2
  have g_b1 : n0 ≤ b1 := by rw [gb1]; exact Zs
  have sz_b1 : h0.size ≤ b1 := by rw [gb1]; exact K.1
  have ne_a1_b1 : a1 ≠ b1 := Nat.ne_of_lt (by rw [gb1]; exact A_a1.lt)
  have A_a1 := A_a1.ext Ex
  have E_a1 := E_a1.ext Ex
  have A_b1 : Afi Z h1 b1 .byte 1 (fun _ => (0 : Int32)) := A
  have E_b1 := A2
  have K := K.ext Ex
  have Zs := Nat.le_trans Zs Ex.1
  refine own_astoreN X hx hby d5_3 rfl (l' := #[.val (.ref a1), .val (.int (0 : Int32)), .val (.int (1 : Int32)), .val (.ref b1), .unset, .unset]) rfl 4 rfl ?_
  refine own_aloadN X hx hby (.ref a1) d5_4 rfl rfl 5 rfl ?_
  refine own_iloadN X hx hby (0 : Int32) d5_5 rfl 6 rfl ?_
  refine own_aloadN X hx hby (.ref b1) d5_6 rfl rfl 7 rfl ?_
  refine own_iconst X hx hby (0 : Int32) d5_7 rfl 8 rfl ?_
  refine own_iloadN X hx hby (1 : Int32) d5_8 rfl 9 rfl ?_
  refine own_callS X hx hby hZ (st := []) [(.ref a1), (.int (0 : Int32)), (.ref b1), (.int (0 : Int32)), (.int (1 : Int32))] rfl hown (hw _ (List.mem_of_getElem? (i := 33) rfl)) (hw _ (List.mem_of_getElem? (i := 34) rfl)) (hw _ (List.mem_of_getElem? (i := 30) rfl)) (hw _ (List.mem_of_getElem? (i := 35) rfl)) (by decide) d5_9 (rm6 l Z a0 hw a1 b1 ar_a1 (fun _ => (0 : Int32)) h1 n0 Zs hc0 A_a1 E_a1 A_b1 E_b1 g_a1 g_b1) eT pd_16 rfl (by rw [hml]; rfl) (by decide) 0 rfl (by decide) (by decide) (by decide) 12 rfl ?_
  intro T9 L9 v9 X hQ
  obtain ⟨h9, eT⟩ : ∃ z, T9.heap = z := ⟨_, rfl⟩
  rw [eT] at hQ
  obtain ⟨rfl, N9, Kc, A_b1, E_b1⟩ := hQ
  have A_a1 := A_a1.keep Kc (ninS ne_a1_b1 nin0)
  have E_a1 := E_a1.keep Kc
  have K := K.trans Kc (allS (Or.inr sz_b1) all0)
  have Zs := Nat.le_trans Zs Kc.1
  have N := Fr.app N N9
  show Go p e below _ T9 (mkF m 12 #[.val (.ref a1), .val (.int (0 : Int32)), .val (.int (1 : Int32)), .val (.ref b1), .unset, .unset] [(.int (1 : Int32))])
  refine own_istore X hx hby d5_12 rfl (l' := #[.val (.ref a1), .val (.int (0 : Int32)), .val (.int (1 : Int32)), .val (.ref b1), .val (.int (1 : Int32)), .unset]) rfl 14 rfl ?_
  refine own_iload X hx hby (1 : Int32) d5_14 rfl 16 rfl ?_
  refine own_iloadN X hx hby (1 : Int32) d5_16 rfl 17 rfl ?_
  have c17 : (1 : Int32) = (1 : Int32) := by decide
  refine own_icmp_eq X hx hby d5_17 57 20 (by decide) rfl (fun _ => ?_) (fun q => absurd c17 q)
  refine own_aloadN X hx hby (.ref b1) d5_57 rfl rfl 58 rfl ?_
  refine own_retA X hx hby hret hlk rfl rfl rfl d5_58 (by decide) (by decide) ?_
  rw [eT]
  exact ⟨b1, rfl, N, K, sz_b1, A_b1, E_b1⟩
theorem ef_7 (a1 : Addr) (m : MethodId) : entryFrame m #[(.ref a1), (.int (1 : Int32))] 2 = mkF m 0 #[.val (.ref a1), .val (.int (1 : Int32))] [] := by first | (simp [entryFrame, mkF, argsToLocals, Value.category]; done) | rfl
def Q7 (Z : State) (a1 : Addr) (ar_a1 : Nat → Int32) (h0 : Heap) (n0 : Nat) (v : Option Value) (h : Heap) (L : List Loc) : Prop := v = some (.int (0 : Int32)) ∧ Fr n0 L ∧ h = h0
set_option maxRecDepth 65536 in
set_option maxHeartbeats 40000000 in
theorem rm7 (l : Launch) (Z : State) (a0 : Array Value) (hw : ∀ d ∈ tables_1, d.before a0 Z = true) (a1 : Addr) (ar_a1 : Nat → Int32) (h0 : Heap) (n0 : Nat) (Zs : n0 ≤ h0.size) (A_a1 : Afi Z h0 a1 .byte 1 ar_a1) (E_a1 : Exa Z h0 a1 "[B") :
    Met1 l Z (⟨"java/lang/StringUTF16", "coderFromArrayLen", "([BI)B"⟩ : MethodName) jdk_52_method_15_code 2 (some .byte) ({ frames := 0, cells := 0, slots := 0, locals := 0 } : Room) #[(.ref a1), (.int (1 : Int32))] h0 (Q7 Z a1 ar_a1 h0 n0) := by
  refine own_met_of (plainFor_of_name pn_6) (ef_7 a1) ?_
  intro p e s m below meth c s₁ X hx hby hml hZ hown hnm hret hlk eT
  have hown : s.vm.findClass "java/lang/StringUTF16" = some m.cls := hown
  have N := Fr.nil n0
  refine own_iloadN X hx hby (1 : Int32) d7_0 rfl 1 rfl ?_
  refine own_aloadN X hx hby (.ref a1) d7_1 rfl rfl 2 rfl ?_
  refine own_arraylength X hx hby hZ (1 : Int32) eT A_a1 rfl d7_2 3 rfl ?_
  refine own_isub X hx hby d7_3 4 rfl ?_
  refine own_top (v' := (.int (0 : Int32))) (congrArg Value.int (by decide)) ?_
  refine own_bipush X hx hby (31 : Int32) d7_4 rfl 6 rfl ?_
  refine own_iushr X hx hby d7_6 7 rfl ?_
  refine own_top (v' := (.int (0 : Int32))) (congrArg Value.int (by decide)) ?_
  refine own_i2b X hx hby d7_7 8 rfl ?_
  refine own_top (v' := (.int (0 : Int32))) (congrArg Value.int (by decide)) ?_
  refine own_retN X hx hby hret hlk (t := .byte) (z' := (0 : Int32)) (by simp) d7_8 (by decide) (by decide) rfl ?_
  rw [eT]
  exact ⟨rfl, N, rfl⟩
theorem ef_3 (a1 : Addr) (a2 : Addr) (m : MethodId) : entryFrame m #[(.ref a1), (.ref a2), (.int (0 : Int32)), (.int (1 : Int32)), .null] 6 = mkF m 0 #[.val (.ref a1), .val (.ref a2), .val (.int (0 : Int32)), .val (.int (1 : Int32)), .val .null, .unset] [] := by first | (simp [entryFrame, mkF, argsToLocals, Value.category]; done) | rfl
def Q3 (Z : State) (a1 : Addr) (a2 : Addr) (ar_a2 : Nat → Int32) (w_coder_a1 : Int32) (w_value_a1 : Value) (u_COMPACT_STRINGS : Int32) (h0 : Heap) (n0 : Nat) (v : Option Value) (h : Heap) (L : List Loc) : Prop := ∃ (b36b1 : Addr), v = none ∧ Fr n0 L ∧ Keep h0 h [a1] ∧ h0.size ≤ b36b1 ∧ Exa Z h a1 "java/lang/String" ∧ Fld Z h a1 "java/lang/String" "coder" "B" (.int (nar .byte (0 : Int32))) ∧ Fld Z h a1 "java/lang/String" "value" "[B" (.ref b36b1) ∧ Afi Z h b36b1 .byte 1 (updI (fun _ => (0 : Int32)) 0 (nar .byte ((ar_a2 0).toInt8.toInt32))) ∧ Exa Z h b36b1 "[B"
set_option maxRecDepth 65536 in
set_option maxHeartbeats 40000000 in
theorem rm3 (l : Launch) (Z : State) (a0 : Array Value) (hw : ∀ d ∈ tables_1, d.before a0 Z = true) (a1 : Addr) (a2 : Addr) (ar_a2 : Nat → Int32) (w_coder_a1 : Int32) (w_value_a1 : Value) (u_COMPACT_STRINGS : Int32) (h0 : Heap) (n0 : Nat) (Zs : n0 ≤ h0.size) (hcs : ¬ u_COMPACT_STRINGS = (0 : Int32)) (hc0 : ¬ (255 : Int32) < (ar_a2 0)) (A_a2 : Afi Z h0 a2 .char 1 ar_a2) (E_a2 : Exa Z h0 a2 "[C") (E_a1 : Exa Z h0 a1 "java/lang/String") (F_coder_a1 : Fld Z h0 a1 "java/lang/String" "coder" "B" (.int w_coder_a1)) (F_value_a1 : Fld Z h0 a1 "java/lang/String" "value" "[B" w_value_a1) (g_a1 : n0 ≤ a1) (S_COMPACT_STRINGS : Sta Z h0 "java/lang/String" "COMPACT_STRINGS" "Z" (.int u_COMPACT_STRINGS)) (g_a2 : n0 ≤ a2) :
    Met1 l Z (⟨"java/lang/String", "<init>", "([CIILjava/lang/Void;)V"⟩ : MethodName) jdk_42_method_149_code 6 none ({ frames := 2, cells := 1, slots := 1, locals := 35 } : Room) #[(.ref a1), (.ref a2), (.int (0 : Int32)), (.int (1 : Int32)), .null] h0 (Q3 Z a1 a2 ar_a2 w_coder_a1 w_value_a1 u_COMPACT_STRINGS h0 n0) := by
  refine own_met_of (plainFor_of_name pn_3) (ef_3 a1 a2) ?_
  intro p e s m below meth c s₁ X hx hby hml hZ hown hnm hret hlk eT
  have hown : s.vm.findClass "java/lang/String" = some m.cls := hown
  have N := Fr.nil n0
  have K := Keep.refl h0 [a1]
  have ne_a2_a1 : a2 ≠ a1 := ne_exa E_a2 E_a1 (by decide)
  refine own_aloadN X hx hby (.ref a1) d3_0 rfl rfl 1 rfl ?_
  refine own_initO X hx hby hZ hown (hw _ (List.mem_of_getElem? (i := 24) rfl)) (hw _ (List.mem_of_getElem? (i := 25) rfl)) (hw _ (List.mem_of_getElem? (i := 26) rfl)) eT (by rw [hml]; rfl) d3_1 (by decide) 0 rfl (by decide) 4 rfl ?_
  intro T1 X eT
  refine own_iloadN X hx hby (1 : Int32) d3_4 rfl 5 rfl ?_
  have c5 : ¬ (1 : Int32) = (0 : Int32) := by decide
  refine own_if_ne X hx hby d3_5 27 8 (by decide) rfl (fun _ => ?_) (fun q => absurd q c5)
  refine own_getS X hx hby hZ hown (host := "") (Or.inl (hw _ (List.mem_of_getElem? (i := 27) rfl))) Via.refl eT S_COMPACT_STRINGS d3_27 30 rfl ?_
  intro T27 X eT
  have c30 : ¬ u_COMPACT_STRINGS = (0 : Int32) := hcs
  refine own_if_eq X hx hby d3_30 58 33 (by decide) rfl (fun q => absurd q c30) (fun _ => ?_)
  refine own_aloadN X hx hby (.ref a2) d3_33 rfl rfl 34 rfl ?_
  refine own_iloadN X hx hby (0 : Int32) d3_34 rfl 35 rfl ?_
  refine own_iloadN X hx hby (1 : Int32) d3_35 rfl 36 rfl ?_
  refine own_callS X hx hby hZ (st := []) [(.ref a2), (.int (0 : Int32)), (.int (1 : Int32))] rfl hown (hw _ (List.mem_of_getElem? (i := 28) rfl)) (hw _ (List.mem_of_getElem? (i := 29) rfl)) (hw _ (List.mem_of_getElem? (i := 30) rfl)) (hw _ (List.mem_of_getElem? (i := 31) rfl)) (by decide) d3_36 (rm5 l Z a0 hw a2 ar_a2 h0 n0 Zs hc0 A_a2 E_a2 g_a2) eT pd_14 rfl (by rw [hml]; rfl) (by decide) 0 rfl (by decide) (by decide) (by decide) 39 rfl ?_
  intro T36 L9 v9 X hQ
  obtain ⟨h36, eT⟩ : ∃ z, T36.heap = z := ⟨_, rfl⟩
  rw [eT] at hQ
  have lt_a1 := E_a1.lt
  have lt_a2 := A_a2.lt
  obtain ⟨b36b1, rfl, N9, Kc, hs_b36b1, A_b36b1, E_b36b1⟩ := hQ
  have g_b36b1 : n0 ≤ b36b1 := Nat.le_trans Zs hs_b36b1
  have sz_b36b1 : h0.size ≤ b36b1 := Nat.le_trans K.1 hs_b36b1
  have ne_a1_b36b1 : a1 ≠ b36b1 := Nat.ne_of_lt (Nat.lt_of_lt_of_le lt_a1 hs_b36b1)
  have ne_a2_b36b1 : a2 ≠ b36b1 := Nat.ne_of_lt (Nat.lt_of_lt_of_le lt_a2 hs_b36b1)
  have A_a2 := A_a2.keep Kc nin0
  have E_a2 := E_a2.keep Kc
  have E_a1 := E_a1.keep Kc
  have F_coder_a1 := F_coder_a1.keep Kc nin0
  have F_value_a1 := F_value_a1.keep Kc nin0
  have K := K.trans Kc all0
  have Zs := Nat.le_trans Zs Kc.1
  have N := Fr.app N N9
  show Go p e below _ T36 (mkF m 39 #[.val (.ref a1), .val (.ref a2), .val (.int (0 : Int32)), .val (.int (1 : Int32)), .val .null, .unset] [(.ref b36b1)])
  refine own_astore X hx hby d3_39 rfl (l' := #[.val (.ref a1), .val (.ref a2), .val (.int (0 : Int32)), .val (.int (1 : Int32)), .val .null, .val (.ref b36b1)]) rfl 41 rfl ?_
  refine own_aloadN X hx hby (.ref a1) d3_41 rfl rfl 42 rfl ?_
  refine own_aload X hx hby (.ref b36b1) d3_42 rfl rfl 44 rfl ?_
  refine own_iloadN X hx hby (1 : Int32) d3_44 rfl 45 rfl ?_
  refine own_callS X hx hby hZ (st := [(.ref a1)]) [(.ref b36b1), (.int (1 : Int32))] rfl hown (hw _ (List.mem_of_getElem? (i := 36) rfl)) (hw _ (List.mem_of_getElem? (i := 37) rfl)) (hw _ (List.mem_of_getElem? (i := 30) rfl)) (hw _ (List.mem_of_getElem? (i := 38) rfl)) (by decide) d3_45 (rm7 l Z a0 hw b36b1 (updI (fun _ => (0 : Int32)) 0 (nar .byte ((ar_a2 0).toInt8.toInt32))) h36 n0 Zs A_b36b1 E_b36b1) eT pd_12 rfl (by rw [hml]; rfl) (by decide) 1 rfl (by decide) (by decide) (by decide) 48 rfl ?_
  intro T45 L9 v9 X hQ
  obtain ⟨rfl, N9, eT⟩ := hQ
  have N := Fr.app N N9
  show Go p e below _ T45 (mkF m 48 #[.val (.ref a1), .val (.ref a2), .val (.int (0 : Int32)), .val (.int (1 : Int32)), .val .null, .val (.ref b36b1)] [(.int (0 : Int32)), (.ref a1)])
  refine own_putFN X hx hby hZ hown (hw _ (List.mem_of_getElem? (i := 39) rfl)) Via.refl eT F_coder_a1 E_a1 (Or.inr ⟨(hw _ (List.mem_of_getElem? (i := 40) rfl)), rfl, hnm⟩) (hw _ (List.mem_of_getElem? (i := 15) rfl)) (ty := .byte) (v' := (.int (nar .byte (0 : Int32)))) (by decide) rfl (fits_nar_byte _) d3_48 51 rfl ?_
  intro T48 h48 X eT W
  have A_a2 := A_a2.other W ne_a2_a1
  have E_a2 := E_a2.wr W
  have E_a1 := E_a1.wr W
  have F_coder_a1 := F_coder_a1.same W
  have F_value_a1 := F_value_a1.other W (Or.inr (slot_ne (Or.inr (hw _ (List.mem_of_getElem? (i := 42) rfl))) (Or.inr (hw _ (List.mem_of_getElem? (i := 40) rfl))) (by decide) (t := (.array .byte)) (t' := .byte) (by decide) (by decide)))
  have A_b36b1 := A_b36b1.other W (Ne.symm ne_a1_b36b1)
  have E_b36b1 := E_b36b1.wr W
  have N := Fr.snoc X N g_a1
  have K := K.wr W (Or.inl (List.mem_of_getElem? (i := 0) rfl))
  have Zs := Nat.le_trans Zs (Keep.of_wr W).1
  refine own_aloadN X hx hby (.ref a1) d3_51 rfl rfl 52 rfl ?_
  refine own_aload X hx hby (.ref b36b1) d3_52 rfl rfl 54 rfl ?_
  refine own_putF X hx hby hZ hown (host := "") (Or.inl (hw _ (List.mem_of_getElem? (i := 41) rfl))) Via.refl eT F_value_a1 E_a1 (Or.inr ⟨(hw _ (List.mem_of_getElem? (i := 42) rfl)), rfl, hnm⟩) (hw _ (List.mem_of_getElem? (i := 15) rfl)) (ty := (.array .byte)) (by decide) rfl rfl d3_54 57 rfl ?_
  intro T54 h54 X eT W
  have A_a2 := A_a2.other W ne_a2_a1
  have E_a2 := E_a2.wr W
  have E_a1 := E_a1.wr W
  have F_coder_a1 := F_coder_a1.other W (Or.inr (slot_ne (Or.inr (hw _ (List.mem_of_getElem? (i := 40) rfl))) (Or.inr (hw _ (List.mem_of_getElem? (i := 42) rfl))) (by decide) (t := .byte) (t' := (.array .byte)) (by decide) (by decide)))
  have F_value_a1 := F_value_a1.same W
  have A_b36b1 := A_b36b1.other W (Ne.symm ne_a1_b36b1)
  have E_b36b1 := E_b36b1.wr W
  have N := Fr.snoc X N g_a1
  have K := K.wr W (Or.inl (List.mem_of_getElem? (i := 0) rfl))
  have Zs := Nat.le_trans Zs (Keep.of_wr W).1
  refine own_ret X hx hby hret hlk d3_57 (by decide) (by decide) ?_
  rw [eT]
  exact ⟨b36b1, rfl, N, K, sz_b36b1, E_a1, F_coder_a1, F_value_a1, A_b36b1, E_b36b1⟩
theorem ef_2 (a1 : Addr) (a2 : Addr) (m : MethodId) : entryFrame m #[(.ref a1), (.ref a2)] 2 = mkF m 0 #[.val (.ref a1), .val (.ref a2)] [] := by first | (simp [entryFrame, mkF, argsToLocals, Value.category]; done) | rfl
def Q2 (Z : State) (a1 : Addr) (a2 : Addr) (ar_a2 : Nat → Int32) (w_coder_a1 : Int32) (w_value_a1 : Value) (u_COMPACT_STRINGS : Int32) (h0 : Heap) (n0 : Nat) (v : Option Value) (h : Heap) (L : List Loc) : Prop := ∃ (b6b36b1 : Addr), v = none ∧ Fr n0 L ∧ Keep h0 h [a1] ∧ h0.size ≤ b6b36b1 ∧ Exa Z h a1 "java/lang/String" ∧ Fld Z h a1 "java/lang/String" "coder" "B" (.int (nar .byte (0 : Int32))) ∧ Fld Z h a1 "java/lang/String" "value" "[B" (.ref b6b36b1) ∧ Afi Z h b6b36b1 .byte 1 (updI (fun _ => (0 : Int32)) 0 (nar .byte ((ar_a2 0).toInt8.toInt32))) ∧ Exa Z h b6b36b1 "[B"
set_option maxRecDepth 65536 in
set_option maxHeartbeats 40000000 in
theorem rm2 (l : Launch) (Z : State) (a0 : Array Value) (hw : ∀ d ∈ tables_1, d.before a0 Z = true) (a1 : Addr) (a2 : Addr) (ar_a2 : Nat → Int32) (w_coder_a1 : Int32) (w_value_a1 : Value) (u_COMPACT_STRINGS : Int32) (h0 : Heap) (n0 : Nat) (Zs : n0 ≤ h0.size) (hcs : ¬ u_COMPACT_STRINGS = (0 : Int32)) (hc0 : ¬ (255 : Int32) < (ar_a2 0)) (A_a2 : Afi Z h0 a2 .char 1 ar_a2) (E_a2 : Exa Z h0 a2 "[C") (E_a1 : Exa Z h0 a1 "java/lang/String") (F_coder_a1 : Fld Z h0 a1 "java/lang/String" "coder" "B" (.int w_coder_a1)) (F_value_a1 : Fld Z h0 a1 "java/lang/String" "value" "[B" w_value_a1) (g_a1 : n0 ≤ a1) (S_COMPACT_STRINGS : Sta Z h0 "java/lang/String" "COMPACT_STRINGS" "Z" (.int u_COMPACT_STRINGS)) (g_a2 : n0 ≤ a2) :
    Met1 l Z (⟨"java/lang/String", "<init>", "([C)V"⟩ : MethodName) jdk_42_method_3_code 2 none ({ frames := 3, cells := 1, slots := 1, locals := 52 } : Room) #[(.ref a1), (.ref a2)] h0 (Q2 Z a1 a2 ar_a2 w_coder_a1 w_value_a1 u_COMPACT_STRINGS h0 n0) := by
  refine own_met_of (plainFor_of_name pn_3) (ef_2 a1 a2) ?_
  intro p e s m below meth c s₁ X hx hby hml hZ hown hnm hret hlk eT
  have hown : s.vm.findClass "java/lang/String" = some m.cls := hown
  have N := Fr.nil n0
  have K := Keep.refl h0 [a1]
  have ne_a2_a1 : a2 ≠ a1 := ne_exa E_a2 E_a1 (by decide)
  refine own_aloadN X hx hby (.ref a1) d2_0 rfl rfl 1 rfl ?_
  refine own_aloadN X hx hby (.ref a2) d2_1 rfl rfl 2 rfl ?_
  refine own_iconst X hx hby (0 : Int32) d2_2 rfl 3 rfl ?_
  refine own_aloadN X hx hby (.ref a2) d2_3 rfl rfl 4 rfl ?_
  refine own_arraylength X hx hby hZ (1 : Int32) eT A_a2 rfl d2_4 5 rfl ?_
  refine own_aconstNull X hx hby d2_5 6 rfl ?_
  refine own_callC X hx hby hZ (st := []) [(.ref a2), (.int (0 : Int32)), (.int (1 : Int32)), .null] rfl rfl hown (hw _ (List.mem_of_getElem? (i := 20) rfl)) (hw _ (List.mem_of_getElem? (i := 21) rfl)) (hw _ (List.mem_of_getElem? (i := 16) rfl)) (hw _ (List.mem_of_getElem? (i := 23) rfl)) (by decide) d2_6 (rm3 l Z a0 hw a1 a2 ar_a2 w_coder_a1 w_value_a1 u_COMPACT_STRINGS h0 n0 Zs hcs hc0 A_a2 E_a2 E_a1 F_coder_a1 F_value_a1 g_a1 S_COMPACT_STRINGS g_a2) eT pd_15 rfl (by rw [hml]; rfl) (by decide) 0 rfl (by decide) (by decide) (by decide) 9 rfl ?_
  intro T6 L9 v9 X hQ
  obtain ⟨h6, eT⟩ : ∃ z, T6.heap = z := ⟨_, rfl⟩
  rw [eT] at hQ
  have lt_a1 := E_a1.lt
  have lt_a2 := A_a2.lt
  obtain ⟨b6b36b1, rfl, N9, Kc, hs_b6b36b1, E_a1, F_coder_a1, F_value_a1, A_b6b36b1, E_b6b36b1⟩ := hQ
  have g_b6b36b1 : n0 ≤ b6b36b1 := Nat.le_trans Zs hs_b6b36b1
  have sz_b6b36b1 : h0.size ≤ b6b36b1 := Nat.le_trans K.1 hs_b6b36b1
  have ne_a1_b6b36b1 : a1 ≠ b6b36b1 := Nat.ne_of_lt (Nat.lt_of_lt_of_le lt_a1 hs_b6b36b1)
  have ne_a2_b6b36b1 : a2 ≠ b6b36b1 := Nat.ne_of_lt (Nat.lt_of_lt_of_le lt_a2 hs_b6b36b1)
  have A_a2 := A_a2.keep Kc (ninS ne_a2_a1 nin0)
  have E_a2 := E_a2.keep Kc
  have K := K.trans Kc (allS (Or.inl (List.mem_of_getElem? (i := 0) rfl)) all0)
  have Zs := Nat.le_trans Zs Kc.1
  have N := Fr.app N N9
  show Go p e below _ T6 (mkF m 9 #[.val (.ref a1), .val (.ref a2)] [])
  refine own_ret X hx hby hret hlk d2_9 (by decide) (by decide) ?_
  rw [eT]
  exact ⟨b6b36b1, rfl, N, K, sz_b6b36b1, E_a1, F_coder_a1, F_value_a1, A_b6b36b1, E_b6b36b1⟩
theorem ef_11 (a1 : Addr) (a2 : Addr) (m : MethodId) : entryFrame m #[(.ref a1), (.ref a2)] 2 = mkF m 0 #[.val (.ref a1), .val (.ref a2)] [] := by first | (simp [entryFrame, mkF, argsToLocals, Value.category]; done) | rfl
def Q11 (Z : State) (a1 : Addr) (a2 : Addr) (w_cause_a1 : Value) (w_stackTrace_a1 : Value) (w_suppressedExceptions_a1 : Value) (w_detailMessage_a1 : Value) (w_depth_a1 : Int32) (w_errorCode_a1 : Value) (u_UNASSIGNED_STACK : Value) (u_SUPPRESSED_SENTINEL : Value) (h0 : Heap) (n0 : Nat) (v : Option Value) (h : Heap) (L : List Loc) : Prop := v = none ∧ Fr n0 L ∧ Keep h0 h [a1] ∧ Exa Z h a1 "com/example/inflight/inflight/ApiException" ∧ Unt h a1
set_option maxRecDepth 65536 in
set_option maxHeartbeats 40000000 in
theorem rm11 (l : Launch) (Z : State) (a0 : Array Value) (hw : ∀ d ∈ tables_1, d.before a0 Z = true) (a1 : Addr) (a2 : Addr) (w_cause_a1 : Value) (w_stackTrace_a1 : Value) (w_suppressedExceptions_a1 : Value) (w_detailMessage_a1 : Value) (w_depth_a1 : Int32) (w_errorCode_a1 : Value) (u_UNASSIGNED_STACK : Value) (u_SUPPRESSED_SENTINEL : Value) (h0 : Heap) (n0 : Nat) (Zs : n0 ≤ h0.size) (hst : l.stackTraces = true) (hU : u_UNASSIGNED_STACK.isRef = true) (hV : u_SUPPRESSED_SENTINEL.isRef = true) (U_a1 : Unt h0 a1) (E_a1 : Exa Z h0 a1 "com/example/inflight/inflight/ApiException") (F_cause_a1 : Fld Z h0 a1 "java/lang/Throwable" "cause" "Ljava/lang/Throwable;" w_cause_a1) (F_stackTrace_a1 : Fld Z h0 a1 "java/lang/Throwable" "stackTrace" "[Ljava/lang/StackTraceElement;" w_stackTrace_a1) (F_suppressedExceptions_a1 : Fld Z h0 a1 "java/lang/Throwable" "suppressedExceptions" "Ljava/util/List;" w_suppressedExceptions_a1) (F_detailMessage_a1 : Fld Z h0 a1 "java/lang/Throwable" "detailMessage" "Ljava/lang/String;" w_detailMessage_a1) (F_backtrace_a1 : Fld Z h0 a1 "java/lang/Throwable" "backtrace" "Ljava/lang/Object;" .null) (F_depth_a1 : Fld Z h0 a1 "java/lang/Throwable" "depth" "I" (.int w_depth_a1)) (F_errorCode_a1 : Fld Z h0 a1 "com/example/inflight/inflight/ApiException" "errorCode" "Lcom/example/inflight/inflight/ErrorCode;" w_errorCode_a1) (g_a1 : n0 ≤ a1) (S_UNASSIGNED_STACK : Sta Z h0 "java/lang/Throwable" "UNASSIGNED_STACK" "[Ljava/lang/StackTraceElement;" u_UNASSIGNED_STACK) (S_SUPPRESSED_SENTINEL : Sta Z h0 "java/lang/Throwable" "SUPPRESSED_SENTINEL" "Ljava/util/List;" u_SUPPRESSED_SENTINEL) :
    Met1N l Z (⟨"java/lang/Throwable", "<init>", "(Ljava/lang/String;)V"⟩ : MethodName) jdk_78_method_2_code 2 none ({ frames := 3, cells := 1, slots := 2752, locals := 42 } : Room) #[(.ref a1), (.ref a2)] h0 (Q11 Z a1 a2 w_cause_a1 w_stackTrace_a1 w_suppressedExceptions_a1 w_detailMessage_a1 w_depth_a1 w_errorCode_a1 u_UNASSIGNED_STACK u_SUPPRESSED_SENTINEL h0 n0) := by
  refine own_met_ofN (plainFor_of_name pn_11) (ef_11 a1 a2) ?_
  intro p e s m below meth c s₁ X hx hby hml hZ hown hnm hret hlk eT hs0 hTK hBelow
  have hown : s.vm.findClass "java/lang/Throwable" = some m.cls := hown
  have N := Fr.nil n0
  have K := Keep.refl h0 [a1]
  have E00 := E_a1
  have U00 := U_a1
  have Zs0 := Zs
  refine own_aloadN X hx hby (.ref a1) d11_0 rfl rfl 1 rfl ?_
  refine own_initO X hx hby hZ hown (hw _ (List.mem_of_getElem? (i := 63) rfl)) (hw _ (List.mem_of_getElem? (i := 25) rfl)) (hw _ (List.mem_of_getElem? (i := 26) rfl)) eT (by rw [hml]; rfl) d11_1 (by decide) 0 rfl (by decide) 4 rfl ?_
  intro T1 X eT
  refine own_aloadN X hx hby (.ref a1) d11_4 rfl rfl 5 rfl ?_
  refine own_aloadN X hx hby (.ref a1) d11_5 rfl rfl 6 rfl ?_
  refine own_putF X hx hby hZ hown (host := "") (Or.inl (hw _ (List.mem_of_getElem? (i := 64) rfl))) Via.refl eT F_cause_a1 E_a1 (Or.inl (hw _ (List.mem_of_getElem? (i := 65) rfl))) (hw _ (List.mem_of_getElem? (i := 9) rfl)) (ty := (.object "java/lang/Throwable")) (by decide) rfl rfl d11_6 9 rfl ?_
  intro T6 h6 X eT W
  have E_a1 := E_a1.wr W
  have F_cause_a1 := F_cause_a1.same W
  have F_stackTrace_a1 := F_stackTrace_a1.other W (Or.inr (slot_ne (Or.inl (hw _ (List.mem_of_getElem? (i := 68) rfl))) (Or.inl (hw _ (List.mem_of_getElem? (i := 65) rfl))) (by decide) (t := (.array (.object "java/lang/StackTraceElement"))) (t' := (.object "java/lang/Throwable")) (by decide) (by decide)))
  have F_suppressedExceptions_a1 := F_suppressedExceptions_a1.other W (Or.inr (slot_ne (Or.inl (hw _ (List.mem_of_getElem? (i := 71) rfl))) (Or.inl (hw _ (List.mem_of_getElem? (i := 65) rfl))) (by decide) (t := (.object "java/util/List")) (t' := (.object "java/lang/Throwable")) (by decide) (by decide)))
  have F_detailMessage_a1 := F_detailMessage_a1.other W (Or.inr (slot_ne (Or.inl (hw _ (List.mem_of_getElem? (i := 95) rfl))) (Or.inl (hw _ (List.mem_of_getElem? (i := 65) rfl))) (by decide) (t := (.object "java/lang/String")) (t' := (.object "java/lang/Throwable")) (by decide) (by decide)))
  have F_backtrace_a1 := F_backtrace_a1.other W (Or.inr (slot_ne (Or.inl (hw _ (List.mem_of_getElem? (i := 96) rfl))) (Or.inl (hw _ (List.mem_of_getElem? (i := 65) rfl))) (by decide) (t := (.object "java/lang/Object")) (t' := (.object "java/lang/Throwable")) (by decide) (by decide)))
  have F_depth_a1 := F_depth_a1.other W (Or.inr (slot_ne (Or.inl (hw _ (List.mem_of_getElem? (i := 97) rfl))) (Or.inl (hw _ (List.mem_of_getElem? (i := 65) rfl))) (by decide) (t := .int) (t' := (.object "java/lang/Throwable")) (by decide) (by decide)))
  have F_errorCode_a1 := F_errorCode_a1.other W (Or.inr (slot_ne (Or.inr (hw _ (List.mem_of_getElem? (i := 110) rfl))) (Or.inl (hw _ (List.mem_of_getElem? (i := 65) rfl))) (by decide) (t := (.object "com/example/inflight/inflight/ErrorCode")) (t' := (.object "java/lang/Throwable")) (by decide) (by decide)))
  have S_UNASSIGNED_STACK := S_UNASSIGNED_STACK.wr W
  have S_SUPPRESSED_SENTINEL := S_SUPPRESSED_SENTINEL.wr W
  have U_a1 := Unt.wr W U_a1
  have N := Fr.snoc X N g_a1
  have K := K.wr W (Or.inl (List.mem_of_getElem? (i := 0) rfl))
  have Zs := Nat.le_trans Zs (Keep.of_wr W).1
  refine own_aloadN X hx hby (.ref a1) d11_9 rfl rfl 10 rfl ?_
  refine own_getS X hx hby hZ hown (host := "") (Or.inl (hw _ (List.mem_of_getElem? (i := 66) rfl))) Via.refl eT S_UNASSIGNED_STACK d11_10 13 rfl ?_
  intro T10 X eT
  rcases ref_cases hU with rfl | ⟨bU, rfl⟩
  · skip
    refine own_putF X hx hby hZ hown (host := "") (Or.inl (hw _ (List.mem_of_getElem? (i := 67) rfl))) Via.refl eT F_stackTrace_a1 E_a1 (Or.inl (hw _ (List.mem_of_getElem? (i := 68) rfl))) (hw _ (List.mem_of_getElem? (i := 9) rfl)) (ty := (.array (.object "java/lang/StackTraceElement"))) (by decide) rfl rfl d11_13 16 rfl ?_
    intro T13 h13 X eT W
    have E_a1 := E_a1.wr W
    have F_cause_a1 := F_cause_a1.other W (Or.inr (slot_ne (Or.inl (hw _ (List.mem_of_getElem? (i := 65) rfl))) (Or.inl (hw _ (List.mem_of_getElem? (i := 68) rfl))) (by decide) (t := (.object "java/lang/Throwable")) (t' := (.array (.object "java/lang/StackTraceElement"))) (by decide) (by decide)))
    have F_stackTrace_a1 := F_stackTrace_a1.same W
    have F_suppressedExceptions_a1 := F_suppressedExceptions_a1.other W (Or.inr (slot_ne (Or.inl (hw _ (List.mem_of_getElem? (i := 71) rfl))) (Or.inl (hw _ (List.mem_of_getElem? (i := 68) rfl))) (by decide) (t := (.object "java/util/List")) (t' := (.array (.object "java/lang/StackTraceElement"))) (by decide) (by decide)))
    have F_detailMessage_a1 := F_detailMessage_a1.other W (Or.inr (slot_ne (Or.inl (hw _ (List.mem_of_getElem? (i := 95) rfl))) (Or.inl (hw _ (List.mem_of_getElem? (i := 68) rfl))) (by decide) (t := (.object "java/lang/String")) (t' := (.array (.object "java/lang/StackTraceElement"))) (by decide) (by decide)))
    have F_backtrace_a1 := F_backtrace_a1.other W (Or.inr (slot_ne (Or.inl (hw _ (List.mem_of_getElem? (i := 96) rfl))) (Or.inl (hw _ (List.mem_of_getElem? (i := 68) rfl))) (by decide) (t := (.object "java/lang/Object")) (t' := (.array (.object "java/lang/StackTraceElement"))) (by decide) (by decide)))
    have F_depth_a1 := F_depth_a1.other W (Or.inr (slot_ne (Or.inl (hw _ (List.mem_of_getElem? (i := 97) rfl))) (Or.inl (hw _ (List.mem_of_getElem? (i := 68) rfl))) (by decide) (t := .int) (t' := (.array (.object "java/lang/StackTraceElement"))) (by decide) (by decide)))
    have F_errorCode_a1 := F_errorCode_a1.other W (Or.inr (slot_ne (Or.inr (hw _ (List.mem_of_getElem? (i := 110) rfl))) (Or.inl (hw _ (List.mem_of_getElem? (i := 68) rfl))) (by decide) (t := (.object "com/example/inflight/inflight/ErrorCode")) (t' := (.array (.object "java/lang/StackTraceElement"))) (by decide) (by decide)))
    have S_UNASSIGNED_STACK := S_UNASSIGNED_STACK.wr W
    have S_SUPPRESSED_SENTINEL := S_SUPPRESSED_SENTINEL.wr W
    have U_a1 := Unt.wr W U_a1
    have N := Fr.snoc X N g_a1
    have K := K.wr W (Or.inl (List.mem_of_getElem? (i := 0) rfl))
    have Zs := Nat.le_trans Zs (Keep.of_wr W).1
    refine own_aloadN X hx hby (.ref a1) d11_16 rfl rfl 17 rfl ?_
    refine own_getS X hx hby hZ hown (host := "") (Or.inl (hw _ (List.mem_of_getElem? (i := 69) rfl))) Via.refl eT S_SUPPRESSED_SENTINEL d11_17 20 rfl ?_
    intro T17 X eT
    rcases ref_cases hV with rfl | ⟨bV, rfl⟩
    · skip
      refine own_putF X hx hby hZ hown (host := "") (Or.inl (hw _ (List.mem_of_getElem? (i := 70) rfl))) Via.refl eT F_suppressedExceptions_a1 E_a1 (Or.inl (hw _ (List.mem_of_getElem? (i := 71) rfl))) (hw _ (List.mem_of_getElem? (i := 9) rfl)) (ty := (.object "java/util/List")) (by decide) rfl rfl d11_20 23 rfl ?_
      intro T20 h20 X eT W
      have E_a1 := E_a1.wr W
      have F_cause_a1 := F_cause_a1.other W (Or.inr (slot_ne (Or.inl (hw _ (List.mem_of_getElem? (i := 65) rfl))) (Or.inl (hw _ (List.mem_of_getElem? (i := 71) rfl))) (by decide) (t := (.object "java/lang/Throwable")) (t' := (.object "java/util/List")) (by decide) (by decide)))
      have F_stackTrace_a1 := F_stackTrace_a1.other W (Or.inr (slot_ne (Or.inl (hw _ (List.mem_of_getElem? (i := 68) rfl))) (Or.inl (hw _ (List.mem_of_getElem? (i := 71) rfl))) (by decide) (t := (.array (.object "java/lang/StackTraceElement"))) (t' := (.object "java/util/List")) (by decide) (by decide)))
      have F_suppressedExceptions_a1 := F_suppressedExceptions_a1.same W
      have F_detailMessage_a1 := F_detailMessage_a1.other W (Or.inr (slot_ne (Or.inl (hw _ (List.mem_of_getElem? (i := 95) rfl))) (Or.inl (hw _ (List.mem_of_getElem? (i := 71) rfl))) (by decide) (t := (.object "java/lang/String")) (t' := (.object "java/util/List")) (by decide) (by decide)))
      have F_backtrace_a1 := F_backtrace_a1.other W (Or.inr (slot_ne (Or.inl (hw _ (List.mem_of_getElem? (i := 96) rfl))) (Or.inl (hw _ (List.mem_of_getElem? (i := 71) rfl))) (by decide) (t := (.object "java/lang/Object")) (t' := (.object "java/util/List")) (by decide) (by decide)))
      have F_depth_a1 := F_depth_a1.other W (Or.inr (slot_ne (Or.inl (hw _ (List.mem_of_getElem? (i := 97) rfl))) (Or.inl (hw _ (List.mem_of_getElem? (i := 71) rfl))) (by decide) (t := .int) (t' := (.object "java/util/List")) (by decide) (by decide)))
      have F_errorCode_a1 := F_errorCode_a1.other W (Or.inr (slot_ne (Or.inr (hw _ (List.mem_of_getElem? (i := 110) rfl))) (Or.inl (hw _ (List.mem_of_getElem? (i := 71) rfl))) (by decide) (t := (.object "com/example/inflight/inflight/ErrorCode")) (t' := (.object "java/util/List")) (by decide) (by decide)))
      have S_UNASSIGNED_STACK := S_UNASSIGNED_STACK.wr W
      have S_SUPPRESSED_SENTINEL := S_SUPPRESSED_SENTINEL.wr W
      have U_a1 := Unt.wr W U_a1
      have N := Fr.snoc X N g_a1
      have K := K.wr W (Or.inl (List.mem_of_getElem? (i := 0) rfl))
      have Zs := Nat.le_trans Zs (Keep.of_wr W).1
      refine own_aloadN X hx hby (.ref a1) d11_23 rfl rfl 24 rfl ?_
      refine own_fill X hx hby hst hw hZ hown eT E_a1 U_a1 (u := .null) rfl F_stackTrace_a1 F_backtrace_a1 S_UNASSIGNED_STACK hTK hBelow (by rw [hml]; rfl) d11_24 (by decide) 0 rfl (by decide) (by decide) (by decide) 27 rfl ?_
      intro T24 h24 i24 j24 k24 X eT
      have hB := own_bs3 (i := i24) (j := j24) (k := k24) (own_bs1 (i := Jvm.RoadKit.slotOf Z "java/lang/Throwable" "suppressedExceptions" "Ljava/util/List;") (own_bs1 (i := Jvm.RoadKit.slotOf Z "java/lang/Throwable" "stackTrace" "[Ljava/lang/StackTraceElement;") (own_bs1 (i := Jvm.RoadKit.slotOf Z "java/lang/Throwable" "cause" "Ljava/lang/Throwable;") (own_bs0 (a := a1)))))
      have K := own_keepS X hs0 eT hB
      have N := own_frB hB g_a1
      have E_a1 := E00.keep K
      have U_a1 := own_untS X hs0 eT U00
      have Zs := Nat.le_trans Zs0 K.1
      obtain ⟨w_dm, F_detailMessage_a1⟩ := fld_laid E_a1 U_a1.known (hw _ (List.mem_of_getElem? (i := 9) rfl)) (Or.inl (hw _ (List.mem_of_getElem? (i := 95) rfl)))
      refine own_pop X hx hby d11_27 rfl 28 rfl ?_
      refine own_aloadN X hx hby (.ref a1) d11_28 rfl rfl 29 rfl ?_
      refine own_aloadN X hx hby (.ref a2) d11_29 rfl rfl 30 rfl ?_
      refine own_putF X hx hby hZ hown (host := "") (Or.inl (hw _ (List.mem_of_getElem? (i := 99) rfl))) Via.refl eT F_detailMessage_a1 E_a1 (Or.inl (hw _ (List.mem_of_getElem? (i := 95) rfl))) (hw _ (List.mem_of_getElem? (i := 9) rfl)) (ty := (.object "java/lang/String")) (by decide) rfl rfl d11_30 33 rfl ?_
      intro T30 h30 X eT W
      have E_a1 := E_a1.wr W
      have U_a1 := Unt.wr W U_a1
      have F_detailMessage_a1 := F_detailMessage_a1.same W
      have N := Fr.snoc X N g_a1
      have K := K.wr W (Or.inl (List.mem_of_getElem? (i := 0) rfl))
      have Zs := Nat.le_trans Zs (Keep.of_wr W).1
      refine own_ret X hx hby hret hlk d11_33 (by decide) (by decide) ?_
      rw [eT]
      exact ⟨rfl, N, K, E_a1, U_a1⟩
    · skip
      refine own_putF X hx hby hZ hown (host := "") (Or.inl (hw _ (List.mem_of_getElem? (i := 70) rfl))) Via.refl eT F_suppressedExceptions_a1 E_a1 (Or.inl (hw _ (List.mem_of_getElem? (i := 71) rfl))) (hw _ (List.mem_of_getElem? (i := 9) rfl)) (ty := (.object "java/util/List")) (by decide) rfl rfl d11_20 23 rfl ?_
      intro T20 h20 X eT W
      have E_a1 := E_a1.wr W
      have F_cause_a1 := F_cause_a1.other W (Or.inr (slot_ne (Or.inl (hw _ (List.mem_of_getElem? (i := 65) rfl))) (Or.inl (hw _ (List.mem_of_getElem? (i := 71) rfl))) (by decide) (t := (.object "java/lang/Throwable")) (t' := (.object "java/util/List")) (by decide) (by decide)))
      have F_stackTrace_a1 := F_stackTrace_a1.other W (Or.inr (slot_ne (Or.inl (hw _ (List.mem_of_getElem? (i := 68) rfl))) (Or.inl (hw _ (List.mem_of_getElem? (i := 71) rfl))) (by decide) (t := (.array (.object "java/lang/StackTraceElement"))) (t' := (.object "java/util/List")) (by decide) (by decide)))
      have F_suppressedExceptions_a1 := F_suppressedExceptions_a1.same W
      have F_detailMessage_a1 := F_detailMessage_a1.other W (Or.inr (slot_ne (Or.inl (hw _ (List.mem_of_getElem? (i := 95) rfl))) (Or.inl (hw _ (List.mem_of_getElem? (i := 71) rfl))) (by decide) (t := (.object "java/lang/String")) (t' := (.object "java/util/List")) (by decide) (by decide)))
      have F_backtrace_a1 := F_backtrace_a1.other W (Or.inr (slot_ne (Or.inl (hw _ (List.mem_of_getElem? (i := 96) rfl))) (Or.inl (hw _ (List.mem_of_getElem? (i := 71) rfl))) (by decide) (t := (.object "java/lang/Object")) (t' := (.object "java/util/List")) (by decide) (by decide)))
      have F_depth_a1 := F_depth_a1.other W (Or.inr (slot_ne (Or.inl (hw _ (List.mem_of_getElem? (i := 97) rfl))) (Or.inl (hw _ (List.mem_of_getElem? (i := 71) rfl))) (by decide) (t := .int) (t' := (.object "java/util/List")) (by decide) (by decide)))
      have F_errorCode_a1 := F_errorCode_a1.other W (Or.inr (slot_ne (Or.inr (hw _ (List.mem_of_getElem? (i := 110) rfl))) (Or.inl (hw _ (List.mem_of_getElem? (i := 71) rfl))) (by decide) (t := (.object "com/example/inflight/inflight/ErrorCode")) (t' := (.object "java/util/List")) (by decide) (by decide)))
      have S_UNASSIGNED_STACK := S_UNASSIGNED_STACK.wr W
      have S_SUPPRESSED_SENTINEL := S_SUPPRESSED_SENTINEL.wr W
      have U_a1 := Unt.wr W U_a1
      have N := Fr.snoc X N g_a1
      have K := K.wr W (Or.inl (List.mem_of_getElem? (i := 0) rfl))
      have Zs := Nat.le_trans Zs (Keep.of_wr W).1
      refine own_aloadN X hx hby (.ref a1) d11_23 rfl rfl 24 rfl ?_
      refine own_fill X hx hby hst hw hZ hown eT E_a1 U_a1 (u := .null) rfl F_stackTrace_a1 F_backtrace_a1 S_UNASSIGNED_STACK hTK hBelow (by rw [hml]; rfl) d11_24 (by decide) 0 rfl (by decide) (by decide) (by decide) 27 rfl ?_
      intro T24 h24 i24 j24 k24 X eT
      have hB := own_bs3 (i := i24) (j := j24) (k := k24) (own_bs1 (i := Jvm.RoadKit.slotOf Z "java/lang/Throwable" "suppressedExceptions" "Ljava/util/List;") (own_bs1 (i := Jvm.RoadKit.slotOf Z "java/lang/Throwable" "stackTrace" "[Ljava/lang/StackTraceElement;") (own_bs1 (i := Jvm.RoadKit.slotOf Z "java/lang/Throwable" "cause" "Ljava/lang/Throwable;") (own_bs0 (a := a1)))))
      have K := own_keepS X hs0 eT hB
      have N := own_frB hB g_a1
      have E_a1 := E00.keep K
      have U_a1 := own_untS X hs0 eT U00
      have Zs := Nat.le_trans Zs0 K.1
      obtain ⟨w_dm, F_detailMessage_a1⟩ := fld_laid E_a1 U_a1.known (hw _ (List.mem_of_getElem? (i := 9) rfl)) (Or.inl (hw _ (List.mem_of_getElem? (i := 95) rfl)))
      refine own_pop X hx hby d11_27 rfl 28 rfl ?_
      refine own_aloadN X hx hby (.ref a1) d11_28 rfl rfl 29 rfl ?_
      refine own_aloadN X hx hby (.ref a2) d11_29 rfl rfl 30 rfl ?_
      refine own_putF X hx hby hZ hown (host := "") (Or.inl (hw _ (List.mem_of_getElem? (i := 99) rfl))) Via.refl eT F_detailMessage_a1 E_a1 (Or.inl (hw _ (List.mem_of_getElem? (i := 95) rfl))) (hw _ (List.mem_of_getElem? (i := 9) rfl)) (ty := (.object "java/lang/String")) (by decide) rfl rfl d11_30 33 rfl ?_
      intro T30 h30 X eT W
      have E_a1 := E_a1.wr W
      have U_a1 := Unt.wr W U_a1
      have F_detailMessage_a1 := F_detailMessage_a1.same W
      have N := Fr.snoc X N g_a1
      have K := K.wr W (Or.inl (List.mem_of_getElem? (i := 0) rfl))
      have Zs := Nat.le_trans Zs (Keep.of_wr W).1
      refine own_ret X hx hby hret hlk d11_33 (by decide) (by decide) ?_
      rw [eT]
      exact ⟨rfl, N, K, E_a1, U_a1⟩
  · skip
    refine own_putF X hx hby hZ hown (host := "") (Or.inl (hw _ (List.mem_of_getElem? (i := 67) rfl))) Via.refl eT F_stackTrace_a1 E_a1 (Or.inl (hw _ (List.mem_of_getElem? (i := 68) rfl))) (hw _ (List.mem_of_getElem? (i := 9) rfl)) (ty := (.array (.object "java/lang/StackTraceElement"))) (by decide) rfl rfl d11_13 16 rfl ?_
    intro T13 h13 X eT W
    have E_a1 := E_a1.wr W
    have F_cause_a1 := F_cause_a1.other W (Or.inr (slot_ne (Or.inl (hw _ (List.mem_of_getElem? (i := 65) rfl))) (Or.inl (hw _ (List.mem_of_getElem? (i := 68) rfl))) (by decide) (t := (.object "java/lang/Throwable")) (t' := (.array (.object "java/lang/StackTraceElement"))) (by decide) (by decide)))
    have F_stackTrace_a1 := F_stackTrace_a1.same W
    have F_suppressedExceptions_a1 := F_suppressedExceptions_a1.other W (Or.inr (slot_ne (Or.inl (hw _ (List.mem_of_getElem? (i := 71) rfl))) (Or.inl (hw _ (List.mem_of_getElem? (i := 68) rfl))) (by decide) (t := (.object "java/util/List")) (t' := (.array (.object "java/lang/StackTraceElement"))) (by decide) (by decide)))
    have F_detailMessage_a1 := F_detailMessage_a1.other W (Or.inr (slot_ne (Or.inl (hw _ (List.mem_of_getElem? (i := 95) rfl))) (Or.inl (hw _ (List.mem_of_getElem? (i := 68) rfl))) (by decide) (t := (.object "java/lang/String")) (t' := (.array (.object "java/lang/StackTraceElement"))) (by decide) (by decide)))
    have F_backtrace_a1 := F_backtrace_a1.other W (Or.inr (slot_ne (Or.inl (hw _ (List.mem_of_getElem? (i := 96) rfl))) (Or.inl (hw _ (List.mem_of_getElem? (i := 68) rfl))) (by decide) (t := (.object "java/lang/Object")) (t' := (.array (.object "java/lang/StackTraceElement"))) (by decide) (by decide)))
    have F_depth_a1 := F_depth_a1.other W (Or.inr (slot_ne (Or.inl (hw _ (List.mem_of_getElem? (i := 97) rfl))) (Or.inl (hw _ (List.mem_of_getElem? (i := 68) rfl))) (by decide) (t := .int) (t' := (.array (.object "java/lang/StackTraceElement"))) (by decide) (by decide)))
    have F_errorCode_a1 := F_errorCode_a1.other W (Or.inr (slot_ne (Or.inr (hw _ (List.mem_of_getElem? (i := 110) rfl))) (Or.inl (hw _ (List.mem_of_getElem? (i := 68) rfl))) (by decide) (t := (.object "com/example/inflight/inflight/ErrorCode")) (t' := (.array (.object "java/lang/StackTraceElement"))) (by decide) (by decide)))
    have S_UNASSIGNED_STACK := S_UNASSIGNED_STACK.wr W
    have S_SUPPRESSED_SENTINEL := S_SUPPRESSED_SENTINEL.wr W
    have U_a1 := Unt.wr W U_a1
    have N := Fr.snoc X N g_a1
    have K := K.wr W (Or.inl (List.mem_of_getElem? (i := 0) rfl))
    have Zs := Nat.le_trans Zs (Keep.of_wr W).1
    refine own_aloadN X hx hby (.ref a1) d11_16 rfl rfl 17 rfl ?_
    refine own_getS X hx hby hZ hown (host := "") (Or.inl (hw _ (List.mem_of_getElem? (i := 69) rfl))) Via.refl eT S_SUPPRESSED_SENTINEL d11_17 20 rfl ?_
    intro T17 X eT
    rcases ref_cases hV with rfl | ⟨bV, rfl⟩
    · skip
      refine own_putF X hx hby hZ hown (host := "") (Or.inl (hw _ (List.mem_of_getElem? (i := 70) rfl))) Via.refl eT F_suppressedExceptions_a1 E_a1 (Or.inl (hw _ (List.mem_of_getElem? (i := 71) rfl))) (hw _ (List.mem_of_getElem? (i := 9) rfl)) (ty := (.object "java/util/List")) (by decide) rfl rfl d11_20 23 rfl ?_
      intro T20 h20 X eT W
      have E_a1 := E_a1.wr W
      have F_cause_a1 := F_cause_a1.other W (Or.inr (slot_ne (Or.inl (hw _ (List.mem_of_getElem? (i := 65) rfl))) (Or.inl (hw _ (List.mem_of_getElem? (i := 71) rfl))) (by decide) (t := (.object "java/lang/Throwable")) (t' := (.object "java/util/List")) (by decide) (by decide)))
      have F_stackTrace_a1 := F_stackTrace_a1.other W (Or.inr (slot_ne (Or.inl (hw _ (List.mem_of_getElem? (i := 68) rfl))) (Or.inl (hw _ (List.mem_of_getElem? (i := 71) rfl))) (by decide) (t := (.array (.object "java/lang/StackTraceElement"))) (t' := (.object "java/util/List")) (by decide) (by decide)))
      have F_suppressedExceptions_a1 := F_suppressedExceptions_a1.same W
      have F_detailMessage_a1 := F_detailMessage_a1.other W (Or.inr (slot_ne (Or.inl (hw _ (List.mem_of_getElem? (i := 95) rfl))) (Or.inl (hw _ (List.mem_of_getElem? (i := 71) rfl))) (by decide) (t := (.object "java/lang/String")) (t' := (.object "java/util/List")) (by decide) (by decide)))
      have F_backtrace_a1 := F_backtrace_a1.other W (Or.inr (slot_ne (Or.inl (hw _ (List.mem_of_getElem? (i := 96) rfl))) (Or.inl (hw _ (List.mem_of_getElem? (i := 71) rfl))) (by decide) (t := (.object "java/lang/Object")) (t' := (.object "java/util/List")) (by decide) (by decide)))
      have F_depth_a1 := F_depth_a1.other W (Or.inr (slot_ne (Or.inl (hw _ (List.mem_of_getElem? (i := 97) rfl))) (Or.inl (hw _ (List.mem_of_getElem? (i := 71) rfl))) (by decide) (t := .int) (t' := (.object "java/util/List")) (by decide) (by decide)))
      have F_errorCode_a1 := F_errorCode_a1.other W (Or.inr (slot_ne (Or.inr (hw _ (List.mem_of_getElem? (i := 110) rfl))) (Or.inl (hw _ (List.mem_of_getElem? (i := 71) rfl))) (by decide) (t := (.object "com/example/inflight/inflight/ErrorCode")) (t' := (.object "java/util/List")) (by decide) (by decide)))
      have S_UNASSIGNED_STACK := S_UNASSIGNED_STACK.wr W
      have S_SUPPRESSED_SENTINEL := S_SUPPRESSED_SENTINEL.wr W
      have U_a1 := Unt.wr W U_a1
      have N := Fr.snoc X N g_a1
      have K := K.wr W (Or.inl (List.mem_of_getElem? (i := 0) rfl))
      have Zs := Nat.le_trans Zs (Keep.of_wr W).1
      refine own_aloadN X hx hby (.ref a1) d11_23 rfl rfl 24 rfl ?_
      refine own_fill X hx hby hst hw hZ hown eT E_a1 U_a1 (u := (.ref bU)) rfl F_stackTrace_a1 F_backtrace_a1 S_UNASSIGNED_STACK hTK hBelow (by rw [hml]; rfl) d11_24 (by decide) 0 rfl (by decide) (by decide) (by decide) 27 rfl ?_
      intro T24 h24 i24 j24 k24 X eT
      have hB := own_bs3 (i := i24) (j := j24) (k := k24) (own_bs1 (i := Jvm.RoadKit.slotOf Z "java/lang/Throwable" "suppressedExceptions" "Ljava/util/List;") (own_bs1 (i := Jvm.RoadKit.slotOf Z "java/lang/Throwable" "stackTrace" "[Ljava/lang/StackTraceElement;") (own_bs1 (i := Jvm.RoadKit.slotOf Z "java/lang/Throwable" "cause" "Ljava/lang/Throwable;") (own_bs0 (a := a1)))))
      have K := own_keepS X hs0 eT hB
      have N := own_frB hB g_a1
      have E_a1 := E00.keep K
      have U_a1 := own_untS X hs0 eT U00
      have Zs := Nat.le_trans Zs0 K.1
      obtain ⟨w_dm, F_detailMessage_a1⟩ := fld_laid E_a1 U_a1.known (hw _ (List.mem_of_getElem? (i := 9) rfl)) (Or.inl (hw _ (List.mem_of_getElem? (i := 95) rfl)))
      refine own_pop X hx hby d11_27 rfl 28 rfl ?_
      refine own_aloadN X hx hby (.ref a1) d11_28 rfl rfl 29 rfl ?_
      refine own_aloadN X hx hby (.ref a2) d11_29 rfl rfl 30 rfl ?_
      refine own_putF X hx hby hZ hown (host := "") (Or.inl (hw _ (List.mem_of_getElem? (i := 99) rfl))) Via.refl eT F_detailMessage_a1 E_a1 (Or.inl (hw _ (List.mem_of_getElem? (i := 95) rfl))) (hw _ (List.mem_of_getElem? (i := 9) rfl)) (ty := (.object "java/lang/String")) (by decide) rfl rfl d11_30 33 rfl ?_
      intro T30 h30 X eT W
      have E_a1 := E_a1.wr W
      have U_a1 := Unt.wr W U_a1
      have F_detailMessage_a1 := F_detailMessage_a1.same W
      have N := Fr.snoc X N g_a1
      have K := K.wr W (Or.inl (List.mem_of_getElem? (i := 0) rfl))
      have Zs := Nat.le_trans Zs (Keep.of_wr W).1
      refine own_ret X hx hby hret hlk d11_33 (by decide) (by decide) ?_
      rw [eT]
      exact ⟨rfl, N, K, E_a1, U_a1⟩
    · skip
      refine own_putF X hx hby hZ hown (host := "") (Or.inl (hw _ (List.mem_of_getElem? (i := 70) rfl))) Via.refl eT F_suppressedExceptions_a1 E_a1 (Or.inl (hw _ (List.mem_of_getElem? (i := 71) rfl))) (hw _ (List.mem_of_getElem? (i := 9) rfl)) (ty := (.object "java/util/List")) (by decide) rfl rfl d11_20 23 rfl ?_
      intro T20 h20 X eT W
      have E_a1 := E_a1.wr W
      have F_cause_a1 := F_cause_a1.other W (Or.inr (slot_ne (Or.inl (hw _ (List.mem_of_getElem? (i := 65) rfl))) (Or.inl (hw _ (List.mem_of_getElem? (i := 71) rfl))) (by decide) (t := (.object "java/lang/Throwable")) (t' := (.object "java/util/List")) (by decide) (by decide)))
      have F_stackTrace_a1 := F_stackTrace_a1.other W (Or.inr (slot_ne (Or.inl (hw _ (List.mem_of_getElem? (i := 68) rfl))) (Or.inl (hw _ (List.mem_of_getElem? (i := 71) rfl))) (by decide) (t := (.array (.object "java/lang/StackTraceElement"))) (t' := (.object "java/util/List")) (by decide) (by decide)))
      have F_suppressedExceptions_a1 := F_suppressedExceptions_a1.same W
      have F_detailMessage_a1 := F_detailMessage_a1.other W (Or.inr (slot_ne (Or.inl (hw _ (List.mem_of_getElem? (i := 95) rfl))) (Or.inl (hw _ (List.mem_of_getElem? (i := 71) rfl))) (by decide) (t := (.object "java/lang/String")) (t' := (.object "java/util/List")) (by decide) (by decide)))
      have F_backtrace_a1 := F_backtrace_a1.other W (Or.inr (slot_ne (Or.inl (hw _ (List.mem_of_getElem? (i := 96) rfl))) (Or.inl (hw _ (List.mem_of_getElem? (i := 71) rfl))) (by decide) (t := (.object "java/lang/Object")) (t' := (.object "java/util/List")) (by decide) (by decide)))
      have F_depth_a1 := F_depth_a1.other W (Or.inr (slot_ne (Or.inl (hw _ (List.mem_of_getElem? (i := 97) rfl))) (Or.inl (hw _ (List.mem_of_getElem? (i := 71) rfl))) (by decide) (t := .int) (t' := (.object "java/util/List")) (by decide) (by decide)))
      have F_errorCode_a1 := F_errorCode_a1.other W (Or.inr (slot_ne (Or.inr (hw _ (List.mem_of_getElem? (i := 110) rfl))) (Or.inl (hw _ (List.mem_of_getElem? (i := 71) rfl))) (by decide) (t := (.object "com/example/inflight/inflight/ErrorCode")) (t' := (.object "java/util/List")) (by decide) (by decide)))
      have S_UNASSIGNED_STACK := S_UNASSIGNED_STACK.wr W
      have S_SUPPRESSED_SENTINEL := S_SUPPRESSED_SENTINEL.wr W
      have U_a1 := Unt.wr W U_a1
      have N := Fr.snoc X N g_a1
      have K := K.wr W (Or.inl (List.mem_of_getElem? (i := 0) rfl))
      have Zs := Nat.le_trans Zs (Keep.of_wr W).1
      refine own_aloadN X hx hby (.ref a1) d11_23 rfl rfl 24 rfl ?_
      refine own_fill X hx hby hst hw hZ hown eT E_a1 U_a1 (u := (.ref bU)) rfl F_stackTrace_a1 F_backtrace_a1 S_UNASSIGNED_STACK hTK hBelow (by rw [hml]; rfl) d11_24 (by decide) 0 rfl (by decide) (by decide) (by decide) 27 rfl ?_
      intro T24 h24 i24 j24 k24 X eT
      have hB := own_bs3 (i := i24) (j := j24) (k := k24) (own_bs1 (i := Jvm.RoadKit.slotOf Z "java/lang/Throwable" "suppressedExceptions" "Ljava/util/List;") (own_bs1 (i := Jvm.RoadKit.slotOf Z "java/lang/Throwable" "stackTrace" "[Ljava/lang/StackTraceElement;") (own_bs1 (i := Jvm.RoadKit.slotOf Z "java/lang/Throwable" "cause" "Ljava/lang/Throwable;") (own_bs0 (a := a1)))))
      have K := own_keepS X hs0 eT hB
      have N := own_frB hB g_a1
      have E_a1 := E00.keep K
      have U_a1 := own_untS X hs0 eT U00
      have Zs := Nat.le_trans Zs0 K.1
      obtain ⟨w_dm, F_detailMessage_a1⟩ := fld_laid E_a1 U_a1.known (hw _ (List.mem_of_getElem? (i := 9) rfl)) (Or.inl (hw _ (List.mem_of_getElem? (i := 95) rfl)))
      refine own_pop X hx hby d11_27 rfl 28 rfl ?_
      refine own_aloadN X hx hby (.ref a1) d11_28 rfl rfl 29 rfl ?_
      refine own_aloadN X hx hby (.ref a2) d11_29 rfl rfl 30 rfl ?_
      refine own_putF X hx hby hZ hown (host := "") (Or.inl (hw _ (List.mem_of_getElem? (i := 99) rfl))) Via.refl eT F_detailMessage_a1 E_a1 (Or.inl (hw _ (List.mem_of_getElem? (i := 95) rfl))) (hw _ (List.mem_of_getElem? (i := 9) rfl)) (ty := (.object "java/lang/String")) (by decide) rfl rfl d11_30 33 rfl ?_
      intro T30 h30 X eT W
      have E_a1 := E_a1.wr W
      have U_a1 := Unt.wr W U_a1
      have F_detailMessage_a1 := F_detailMessage_a1.same W
      have N := Fr.snoc X N g_a1
      have K := K.wr W (Or.inl (List.mem_of_getElem? (i := 0) rfl))
      have Zs := Nat.le_trans Zs (Keep.of_wr W).1
      refine own_ret X hx hby hret hlk d11_33 (by decide) (by decide) ?_
      rw [eT]
      exact ⟨rfl, N, K, E_a1, U_a1⟩
theorem ef_10 (a1 : Addr) (a2 : Addr) (m : MethodId) : entryFrame m #[(.ref a1), (.ref a2)] 2 = mkF m 0 #[.val (.ref a1), .val (.ref a2)] [] := by first | (simp [entryFrame, mkF, argsToLocals, Value.category]; done) | rfl
def Q10 (Z : State) (a1 : Addr) (a2 : Addr) (w_cause_a1 : Value) (w_stackTrace_a1 : Value) (w_suppressedExceptions_a1 : Value) (w_detailMessage_a1 : Value) (w_depth_a1 : Int32) (w_errorCode_a1 : Value) (u_UNASSIGNED_STACK : Value) (u_SUPPRESSED_SENTINEL : Value) (h0 : Heap) (n0 : Nat) (v : Option Value) (h : Heap) (L : List Loc) : Prop := v = none ∧ Fr n0 L ∧ Keep h0 h [a1] ∧ Exa Z h a1 "com/example/inflight/inflight/ApiException" ∧ Unt h a1
set_option maxRecDepth 65536 in
set_option maxHeartbeats 40000000 in
theorem rm10 (l : Launch) (Z : State) (a0 : Array Value) (hw : ∀ d ∈ tables_1, d.before a0 Z = true) (a1 : Addr) (a2 : Addr) (w_cause_a1 : Value) (w_stackTrace_a1 : Value) (w_suppressedExceptions_a1 : Value) (w_detailMessage_a1 : Value) (w_depth_a1 : Int32) (w_errorCode_a1 : Value) (u_UNASSIGNED_STACK : Value) (u_SUPPRESSED_SENTINEL : Value) (h0 : Heap) (n0 : Nat) (Zs : n0 ≤ h0.size) (hst : l.stackTraces = true) (hU : u_UNASSIGNED_STACK.isRef = true) (hV : u_SUPPRESSED_SENTINEL.isRef = true) (U_a1 : Unt h0 a1) (E_a1 : Exa Z h0 a1 "com/example/inflight/inflight/ApiException") (F_cause_a1 : Fld Z h0 a1 "java/lang/Throwable" "cause" "Ljava/lang/Throwable;" w_cause_a1) (F_stackTrace_a1 : Fld Z h0 a1 "java/lang/Throwable" "stackTrace" "[Ljava/lang/StackTraceElement;" w_stackTrace_a1) (F_suppressedExceptions_a1 : Fld Z h0 a1 "java/lang/Throwable" "suppressedExceptions" "Ljava/util/List;" w_suppressedExceptions_a1) (F_detailMessage_a1 : Fld Z h0 a1 "java/lang/Throwable" "detailMessage" "Ljava/lang/String;" w_detailMessage_a1) (F_backtrace_a1 : Fld Z h0 a1 "java/lang/Throwable" "backtrace" "Ljava/lang/Object;" .null) (F_depth_a1 : Fld Z h0 a1 "java/lang/Throwable" "depth" "I" (.int w_depth_a1)) (F_errorCode_a1 : Fld Z h0 a1 "com/example/inflight/inflight/ApiException" "errorCode" "Lcom/example/inflight/inflight/ErrorCode;" w_errorCode_a1) (g_a1 : n0 ≤ a1) (S_UNASSIGNED_STACK : Sta Z h0 "java/lang/Throwable" "UNASSIGNED_STACK" "[Ljava/lang/StackTraceElement;" u_UNASSIGNED_STACK) (S_SUPPRESSED_SENTINEL : Sta Z h0 "java/lang/Throwable" "SUPPRESSED_SENTINEL" "Ljava/util/List;" u_SUPPRESSED_SENTINEL) :
    Met1N l Z (⟨"java/lang/Exception", "<init>", "(Ljava/lang/String;)V"⟩ : MethodName) jdk_59_method_2_code 2 none ({ frames := 4, cells := 1, slots := 2752, locals := 55 } : Room) #[(.ref a1), (.ref a2)] h0 (Q10 Z a1 a2 w_cause_a1 w_stackTrace_a1 w_suppressedExceptions_a1 w_detailMessage_a1 w_depth_a1 w_errorCode_a1 u_UNASSIGNED_STACK u_SUPPRESSED_SENTINEL h0 n0) := by
  refine own_met_ofN (plainFor_of_name pn_10) (ef_10 a1 a2) ?_
  intro p e s m below meth c s₁ X hx hby hml hZ hown hnm hret hlk eT hs0 hTK hBelow
  have hown : s.vm.findClass "java/lang/Exception" = some m.cls := hown
  have N := Fr.nil n0
  have K := Keep.refl h0 [a1]
  refine own_aloadN X hx hby (.ref a1) d10_0 rfl rfl 1 rfl ?_
  refine own_aloadN X hx hby (.ref a2) d10_1 rfl rfl 2 rfl ?_
  refine own_callCN X hx hby hZ (st := []) [(.ref a2)] rfl rfl hown hTK hBelow (hw _ (List.mem_of_getElem? (i := 57) rfl)) (hw _ (List.mem_of_getElem? (i := 58) rfl)) (hw _ (List.mem_of_getElem? (i := 61) rfl)) (hw _ (List.mem_of_getElem? (i := 62) rfl)) (by decide) d10_2 (rm11 l Z a0 hw a1 a2 w_cause_a1 w_stackTrace_a1 w_suppressedExceptions_a1 w_detailMessage_a1 w_depth_a1 w_errorCode_a1 u_UNASSIGNED_STACK u_SUPPRESSED_SENTINEL h0 n0 Zs hst hU hV U_a1 E_a1 F_cause_a1 F_stackTrace_a1 F_suppressedExceptions_a1 F_detailMessage_a1 F_backtrace_a1 F_depth_a1 F_errorCode_a1 g_a1 S_UNASSIGNED_STACK S_SUPPRESSED_SENTINEL) eT pd_11 rfl (by rw [hml]; rfl) (by decide) 0 rfl (by decide) (by decide) (by decide) 5 rfl ?_
  intro T2 L9 v9 X hQ
  obtain ⟨h2, eT⟩ : ∃ z, T2.heap = z := ⟨_, rfl⟩
  rw [eT] at hQ
  obtain ⟨rfl, N9, Kc, E_a1, U_a1⟩ := hQ
  have K := K.trans Kc (allS (Or.inl (List.mem_of_getElem? (i := 0) rfl)) all0)
  have Zs := Nat.le_trans Zs Kc.1
  have N := Fr.app N N9
  show Go p e below _ T2 (mkF m 5 #[.val (.ref a1), .val (.ref a2)] [])
  refine own_ret X hx hby hret hlk d10_5 (by decide) (by decide) ?_
  rw [eT]
  exact ⟨rfl, N, K, E_a1, U_a1⟩
theorem ef_9 (a1 : Addr) (a2 : Addr) (m : MethodId) : entryFrame m #[(.ref a1), (.ref a2)] 2 = mkF m 0 #[.val (.ref a1), .val (.ref a2)] [] := by first | (simp [entryFrame, mkF, argsToLocals, Value.category]; done) | rfl
def Q9 (Z : State) (a1 : Addr) (a2 : Addr) (w_cause_a1 : Value) (w_stackTrace_a1 : Value) (w_suppressedExceptions_a1 : Value) (w_detailMessage_a1 : Value) (w_depth_a1 : Int32) (w_errorCode_a1 : Value) (u_UNASSIGNED_STACK : Value) (u_SUPPRESSED_SENTINEL : Value) (h0 : Heap) (n0 : Nat) (v : Option Value) (h : Heap) (L : List Loc) : Prop := v = none ∧ Fr n0 L ∧ Keep h0 h [a1] ∧ Exa Z h a1 "com/example/inflight/inflight/ApiException" ∧ Unt h a1
set_option maxRecDepth 65536 in
set_option maxHeartbeats 40000000 in
theorem rm9 (l : Launch) (Z : State) (a0 : Array Value) (hw : ∀ d ∈ tables_1, d.before a0 Z = true) (a1 : Addr) (a2 : Addr) (w_cause_a1 : Value) (w_stackTrace_a1 : Value) (w_suppressedExceptions_a1 : Value) (w_detailMessage_a1 : Value) (w_depth_a1 : Int32) (w_errorCode_a1 : Value) (u_UNASSIGNED_STACK : Value) (u_SUPPRESSED_SENTINEL : Value) (h0 : Heap) (n0 : Nat) (Zs : n0 ≤ h0.size) (hst : l.stackTraces = true) (hU : u_UNASSIGNED_STACK.isRef = true) (hV : u_SUPPRESSED_SENTINEL.isRef = true) (U_a1 : Unt h0 a1) (E_a1 : Exa Z h0 a1 "com/example/inflight/inflight/ApiException") (F_cause_a1 : Fld Z h0 a1 "java/lang/Throwable" "cause" "Ljava/lang/Throwable;" w_cause_a1) (F_stackTrace_a1 : Fld Z h0 a1 "java/lang/Throwable" "stackTrace" "[Ljava/lang/StackTraceElement;" w_stackTrace_a1) (F_suppressedExceptions_a1 : Fld Z h0 a1 "java/lang/Throwable" "suppressedExceptions" "Ljava/util/List;" w_suppressedExceptions_a1) (F_detailMessage_a1 : Fld Z h0 a1 "java/lang/Throwable" "detailMessage" "Ljava/lang/String;" w_detailMessage_a1) (F_backtrace_a1 : Fld Z h0 a1 "java/lang/Throwable" "backtrace" "Ljava/lang/Object;" .null) (F_depth_a1 : Fld Z h0 a1 "java/lang/Throwable" "depth" "I" (.int w_depth_a1)) (F_errorCode_a1 : Fld Z h0 a1 "com/example/inflight/inflight/ApiException" "errorCode" "Lcom/example/inflight/inflight/ErrorCode;" w_errorCode_a1) (g_a1 : n0 ≤ a1) (S_UNASSIGNED_STACK : Sta Z h0 "java/lang/Throwable" "UNASSIGNED_STACK" "[Ljava/lang/StackTraceElement;" u_UNASSIGNED_STACK) (S_SUPPRESSED_SENTINEL : Sta Z h0 "java/lang/Throwable" "SUPPRESSED_SENTINEL" "Ljava/util/List;" u_SUPPRESSED_SENTINEL) :
    Met1N l Z (⟨"java/lang/RuntimeException", "<init>", "(Ljava/lang/String;)V"⟩ : MethodName) jdk_58_method_2_code 2 none ({ frames := 5, cells := 1, slots := 2752, locals := 68 } : Room) #[(.ref a1), (.ref a2)] h0 (Q9 Z a1 a2 w_cause_a1 w_stackTrace_a1 w_suppressedExceptions_a1 w_detailMessage_a1 w_depth_a1 w_errorCode_a1 u_UNASSIGNED_STACK u_SUPPRESSED_SENTINEL h0 n0) := by
  refine own_met_ofN (plainFor_of_name pn_9) (ef_9 a1 a2) ?_
  intro p e s m below meth c s₁ X hx hby hml hZ hown hnm hret hlk eT hs0 hTK hBelow
  have hown : s.vm.findClass "java/lang/RuntimeException" = some m.cls := hown
  have N := Fr.nil n0
  have K := Keep.refl h0 [a1]
  refine own_aloadN X hx hby (.ref a1) d9_0 rfl rfl 1 rfl ?_
  refine own_aloadN X hx hby (.ref a2) d9_1 rfl rfl 2 rfl ?_
  refine own_callCN X hx hby hZ (st := []) [(.ref a2)] rfl rfl hown hTK hBelow (hw _ (List.mem_of_getElem? (i := 51) rfl)) (hw _ (List.mem_of_getElem? (i := 52) rfl)) (hw _ (List.mem_of_getElem? (i := 55) rfl)) (hw _ (List.mem_of_getElem? (i := 56) rfl)) (by decide) d9_2 (rm10 l Z a0 hw a1 a2 w_cause_a1 w_stackTrace_a1 w_suppressedExceptions_a1 w_detailMessage_a1 w_depth_a1 w_errorCode_a1 u_UNASSIGNED_STACK u_SUPPRESSED_SENTINEL h0 n0 Zs hst hU hV U_a1 E_a1 F_cause_a1 F_stackTrace_a1 F_suppressedExceptions_a1 F_detailMessage_a1 F_backtrace_a1 F_depth_a1 F_errorCode_a1 g_a1 S_UNASSIGNED_STACK S_SUPPRESSED_SENTINEL) eT pd_11 rfl (by rw [hml]; rfl) (by decide) 0 rfl (by decide) (by decide) (by decide) 5 rfl ?_
  intro T2 L9 v9 X hQ
  obtain ⟨h2, eT⟩ : ∃ z, T2.heap = z := ⟨_, rfl⟩
  rw [eT] at hQ
  obtain ⟨rfl, N9, Kc, E_a1, U_a1⟩ := hQ
  have K := K.trans Kc (allS (Or.inl (List.mem_of_getElem? (i := 0) rfl)) all0)
  have Zs := Nat.le_trans Zs Kc.1
  have N := Fr.app N N9
  show Go p e below _ T2 (mkF m 5 #[.val (.ref a1), .val (.ref a2)] [])
  refine own_ret X hx hby hret hlk d9_5 (by decide) (by decide) ?_
  rw [eT]
  exact ⟨rfl, N, K, E_a1, U_a1⟩
theorem ef_14 (a1 : Addr) (a2 : Addr) (m : MethodId) : entryFrame m #[(.ref a1), (.ref a2)] 2 = mkF m 0 #[.val (.ref a1), .val (.ref a2)] [] := by first | (simp [entryFrame, mkF, argsToLocals, Value.category]; done) | rfl
def Q14 (Z : State) (a1 : Addr) (a2 : Addr) (h0 : Heap) (n0 : Nat) (v : Option Value) (h : Heap) (L : List Loc) : Prop := v = some (.ref a1) ∧ Fr n0 L ∧ h = h0
set_option maxRecDepth 65536 in
set_option maxHeartbeats 40000000 in
theorem rm14 (l : Launch) (Z : State) (a0 : Array Value) (hw : ∀ d ∈ tables_1, d.before a0 Z = true) (a1 : Addr) (a2 : Addr) (h0 : Heap) (n0 : Nat) (Zs : n0 ≤ h0.size) :
    Met1 l Z (⟨"java/util/Objects", "requireNonNull", "(Ljava/lang/Object;Ljava/lang/String;)Ljava/lang/Object;"⟩ : MethodName) jdk_31_method_11_code 2 (some (.object "java/lang/Object")) ({ frames := 0, cells := 0, slots := 0, locals := 0 } : Room) #[(.ref a1), (.ref a2)] h0 (Q14 Z a1 a2 h0 n0) := by
  refine own_met_of (plainFor_of_name pn_14) (ef_14 a1 a2) ?_
  intro p e s m below meth c s₁ X hx hby hml hZ hown hnm hret hlk eT
  have hown : s.vm.findClass "java/util/Objects" = some m.cls := hown
  have N := Fr.nil n0
  refine own_aloadN X hx hby (.ref a1) d14_0 rfl rfl 1 rfl ?_
  refine own_ifnonnullY X hx hby d14_1 13 (by decide) ?_
  refine own_aloadN X hx hby (.ref a1) d14_13 rfl rfl 14 rfl ?_
  refine own_retA X hx hby hret hlk rfl rfl rfl d14_14 (by decide) (by decide) ?_
  rw [eT]
  exact ⟨rfl, N, rfl⟩
theorem ef_8 (a1 : Addr) (a2 : Addr) (a3 : Addr) (m : MethodId) : entryFrame m #[(.ref a1), (.ref a2), (.ref a3)] 3 = mkF m 0 #[.val (.ref a1), .val (.ref a2), .val (.ref a3)] [] := by first | (simp [entryFrame, mkF, argsToLocals, Value.category]; done) | rfl
def Q8 (Z : State) (a1 : Addr) (a2 : Addr) (a3 : Addr) (w_cause_a1 : Value) (w_stackTrace_a1 : Value) (w_suppressedExceptions_a1 : Value) (w_detailMessage_a1 : Value) (w_depth_a1 : Int32) (w_errorCode_a1 : Value) (u_UNASSIGNED_STACK : Value) (u_SUPPRESSED_SENTINEL : Value) (h0 : Heap) (n0 : Nat) (v : Option Value) (h : Heap) (L : List Loc) : Prop := v = none ∧ Fr n0 L ∧ Keep h0 h [a1] ∧ Exa Z h a1 "com/example/inflight/inflight/ApiException"
set_option maxRecDepth 65536 in
set_option maxHeartbeats 40000000 in
theorem rm8 (l : Launch) (Z : State) (a0 : Array Value) (hw : ∀ d ∈ tables_1, d.before a0 Z = true) (a1 : Addr) (a2 : Addr) (a3 : Addr) (w_cause_a1 : Value) (w_stackTrace_a1 : Value) (w_suppressedExceptions_a1 : Value) (w_detailMessage_a1 : Value) (w_depth_a1 : Int32) (w_errorCode_a1 : Value) (u_UNASSIGNED_STACK : Value) (u_SUPPRESSED_SENTINEL : Value) (h0 : Heap) (n0 : Nat) (Zs : n0 ≤ h0.size) (hst : l.stackTraces = true) (hU : u_UNASSIGNED_STACK.isRef = true) (hV : u_SUPPRESSED_SENTINEL.isRef = true) (U_a1 : Unt h0 a1) (E_a1 : Exa Z h0 a1 "com/example/inflight/inflight/ApiException") (F_cause_a1 : Fld Z h0 a1 "java/lang/Throwable" "cause" "Ljava/lang/Throwable;" w_cause_a1) (F_stackTrace_a1 : Fld Z h0 a1 "java/lang/Throwable" "stackTrace" "[Ljava/lang/StackTraceElement;" w_stackTrace_a1) (F_suppressedExceptions_a1 : Fld Z h0 a1 "java/lang/Throwable" "suppressedExceptions" "Ljava/util/List;" w_suppressedExceptions_a1) (F_detailMessage_a1 : Fld Z h0 a1 "java/lang/Throwable" "detailMessage" "Ljava/lang/String;" w_detailMessage_a1) (F_backtrace_a1 : Fld Z h0 a1 "java/lang/Throwable" "backtrace" "Ljava/lang/Object;" .null) (F_depth_a1 : Fld Z h0 a1 "java/lang/Throwable" "depth" "I" (.int w_depth_a1)) (F_errorCode_a1 : Fld Z h0 a1 "com/example/inflight/inflight/ApiException" "errorCode" "Lcom/example/inflight/inflight/ErrorCode;" w_errorCode_a1) (g_a1 : n0 ≤ a1) (S_UNASSIGNED_STACK : Sta Z h0 "java/lang/Throwable" "UNASSIGNED_STACK" "[Ljava/lang/StackTraceElement;" u_UNASSIGNED_STACK) (S_SUPPRESSED_SENTINEL : Sta Z h0 "java/lang/Throwable" "SUPPRESSED_SENTINEL" "Ljava/util/List;" u_SUPPRESSED_SENTINEL) (E_a2 : Exa Z h0 a2 "com/example/inflight/inflight/ErrorCode") :
    Met1K l Z (⟨"com/example/inflight/inflight/ApiException", "<init>", "(Lcom/example/inflight/inflight/ErrorCode;Ljava/lang/String;)V"⟩ : MethodName) prog_2_method_1_code 3 none ({ frames := 6, cells := 3, slots := 2792, locals := 81 } : Room) #[(.ref a1), (.ref a2), (.ref a3)] h0 (Q8 Z a1 a2 a3 w_cause_a1 w_stackTrace_a1 w_suppressedExceptions_a1 w_detailMessage_a1 w_depth_a1 w_errorCode_a1 u_UNASSIGNED_STACK u_SUPPRESSED_SENTINEL h0 n0) := by
  refine own_met_ofK (plainFor_of_name pn_8) (ef_8 a1 a2 a3) ?_
  intro p e s m below meth c s₁ vm0 X hx hby hml hZ hown hnm hret hlk eT hS hs0 hTK hBelow
  have hown : (s.setVm vm0).vm.findClass "com/example/inflight/inflight/ApiException" = some m.cls := hown
  have hk : 0 ≤ h0.size := Nat.zero_le _
  have N := Fr.nil n0
  have K := Keep.refl h0 [a1]
  have ne_a1_a2 : a1 ≠ a2 := ne_exa E_a1 E_a2 (by decide)
  refine own_aloadN X hx hby (.ref a1) d8_0 rfl rfl 1 rfl ?_
  refine own_aloadN X hx hby (.ref a3) d8_1 rfl rfl 2 rfl ?_
  refine own_callCN X hx hby hZ (st := []) [(.ref a3)] rfl rfl hown hTK hBelow (hw _ (List.mem_of_getElem? (i := 46) rfl)) (hw _ (List.mem_of_getElem? (i := 47) rfl)) (hw _ (List.mem_of_getElem? (i := 49) rfl)) (hw _ (List.mem_of_getElem? (i := 50) rfl)) (by decide) d8_2 (rm9 l Z a0 hw a1 a3 w_cause_a1 w_stackTrace_a1 w_suppressedExceptions_a1 w_detailMessage_a1 w_depth_a1 w_errorCode_a1 u_UNASSIGNED_STACK u_SUPPRESSED_SENTINEL h0 n0 Zs hst hU hV U_a1 E_a1 F_cause_a1 F_stackTrace_a1 F_suppressedExceptions_a1 F_detailMessage_a1 F_backtrace_a1 F_depth_a1 F_errorCode_a1 g_a1 S_UNASSIGNED_STACK S_SUPPRESSED_SENTINEL) eT pd_11 rfl (by rw [hml]; rfl) (by decide) 0 rfl (by decide) (by decide) (by decide) 5 rfl ?_
  intro T2 L9 v9 X hQ
  obtain ⟨h2, eT⟩ : ∃ z, T2.heap = z := ⟨_, rfl⟩
  rw [eT] at hQ
  obtain ⟨rfl, N9, Kc, E_a1, U_a1⟩ := hQ
  have hk := Nat.le_trans hk Kc.1
  have E_a2 := E_a2.keep Kc
  have K := K.trans Kc (allS (Or.inl (List.mem_of_getElem? (i := 0) rfl)) all0)
  have Zs := Nat.le_trans Zs Kc.1
  have N := Fr.app N N9
  show Go p e below _ T2 (mkF m 5 #[.val (.ref a1), .val (.ref a2), .val (.ref a3)] [])
  refine own_aloadN X hx hby (.ref a1) d8_5 rfl rfl 6 rfl ?_
  refine own_aloadN X hx hby (.ref a2) d8_6 rfl rfl 7 rfl ?_
  refine own_ldcS X hx hby hZ hown (hw _ (List.mem_of_getElem? (i := 100) rfl)) (own_wS hw) eT hS hk d8_7 36 (by decide) (by decide) (by decide) (by decide) 9 rfl ?_
  intro T7 h7 lit7 vm7 k7 X eT Ex hS hk hZ hown
  have E_a1 := E_a1.ext Ex
  have E_a2 := E_a2.ext Ex
  have U_a1 := Unt.ext Ex U_a1
  have K := K.ext Ex
  have Zs := Nat.le_trans Zs Ex.1
  refine own_callS X hx hby hZ (st := [(.ref a1)]) [(.ref a2), (.ref lit7)] rfl hown (hw _ (List.mem_of_getElem? (i := 103) rfl)) (hw _ (List.mem_of_getElem? (i := 104) rfl)) (hw _ (List.mem_of_getElem? (i := 105) rfl)) (hw _ (List.mem_of_getElem? (i := 106) rfl)) (by decide) d8_9 (rm14 l Z a0 hw a2 lit7 h7 n0 Zs ) eT pd_10 rfl (by rw [hml]; rfl) (by decide) 1 rfl (by decide) (by decide) (by decide) 12 rfl ?_
  intro T9 L9 v9 X hQ
  obtain ⟨rfl, N9, eT⟩ := hQ
  have N := Fr.app N N9
  show Go p e below _ T9 (mkF m 12 #[.val (.ref a1), .val (.ref a2), .val (.ref a3)] [(.ref a2), (.ref a1)])
  refine own_castY X hx hby hZ hown (hw _ (List.mem_of_getElem? (i := 107) rfl)) eT (Ins.self E_a2) d8_12 15 rfl ?_
  intro T12 X eT
  obtain ⟨w_ec, F_errorCode_a1⟩ := fld_laid E_a1 U_a1.known (hw _ (List.mem_of_getElem? (i := 9) rfl)) (Or.inr (hw _ (List.mem_of_getElem? (i := 110) rfl)))
  refine own_putF X hx hby hZ hown (host := "") (Or.inl (hw _ (List.mem_of_getElem? (i := 109) rfl))) Via.refl eT F_errorCode_a1 E_a1 (Or.inr ⟨(hw _ (List.mem_of_getElem? (i := 110) rfl)), rfl, hnm⟩) (hw _ (List.mem_of_getElem? (i := 9) rfl)) (ty := (.object "com/example/inflight/inflight/ErrorCode")) (by decide) rfl rfl d8_15 18 rfl ?_
  intro T15 h15 X eT W
  have hk := Nat.le_trans hk (Keep.of_wr W).1
  have E_a1 := E_a1.wr W
  have E_a2 := E_a2.wr W
  have U_a1 := Unt.wr W U_a1
  have F_errorCode_a1 := F_errorCode_a1.same W
  have N := Fr.snoc X N g_a1
  have K := K.wr W (Or.inl (List.mem_of_getElem? (i := 0) rfl))
  have Zs := Nat.le_trans Zs (Keep.of_wr W).1
  refine own_retW X hx hby hS (by rw [eT]; exact hk) hret hlk d8_18 (by decide) (by decide) ?_
  rw [eT]
  exact ⟨rfl, N, K, E_a1⟩
theorem ef_16 (a1 : Addr) (m : MethodId) : entryFrame m #[(.ref a1)] 1 = mkF m 0 #[.val (.ref a1)] [] := by first | (simp [entryFrame, mkF, argsToLocals, Value.category]; done) | rfl
def Q16 (Z : State) (a1 : Addr) (h0 : Heap) (n0 : Nat) (v : Option Value) (h : Heap) (L : List Loc) : Prop := v = none ∧ Fr n0 L ∧ h = h0
set_option maxRecDepth 65536 in
set_option maxHeartbeats 40000000 in
theorem rm16 (l : Launch) (Z : State) (a0 : Array Value) (hw : ∀ d ∈ tables_1, d.before a0 Z = true) (a1 : Addr) (h0 : Heap) (n0 : Nat) (Zs : n0 ≤ h0.size) :
    Met1 l Z (⟨"java/lang/Record", "<init>", "()V"⟩ : MethodName) jdk_30_method_1_code 1 none ({ frames := 1, cells := 0, slots := 0, locals := 12 } : Room) #[(.ref a1)] h0 (Q16 Z a1 h0 n0) := by
  refine own_met_of (plainFor_of_name pn_16) (ef_16 a1) ?_
  intro p e s m below meth c s₁ X hx hby hml hZ hown hnm hret hlk eT
  have hown : s.vm.findClass "java/lang/Record" = some m.cls := hown
  have N := Fr.nil n0
  refine own_aloadN X hx hby (.ref a1) d16_0 rfl rfl 1 rfl ?_
  refine own_initO X hx hby hZ hown (hw _ (List.mem_of_getElem? (i := 122) rfl)) (hw _ (List.mem_of_getElem? (i := 25) rfl)) (hw _ (List.mem_of_getElem? (i := 26) rfl)) eT (by rw [hml]; rfl) d16_1 (by decide) 0 rfl (by decide) 4 rfl ?_
  intro T1 X eT
  refine own_ret X hx hby hret hlk d16_4 (by decide) (by decide) ?_
  rw [eT]
  exact ⟨rfl, N, rfl⟩
theorem ef_15_nn (a1 : Addr) (m : MethodId) : entryFrame m #[(.ref a1), .null, .null] 3 = mkF m 0 #[.val (.ref a1), .val .null, .val .null] [] := by first | (simp [entryFrame, mkF, argsToLocals, Value.category]; done) | rfl
def Q15_nn (Z : State) (a1 : Addr) (w_value_a1 : Value) (w_failure_a1 : Value) (h0 : Heap) (n0 : Nat) (v : Option Value) (h : Heap) (L : List Loc) : Prop := v = none ∧ Fr n0 L ∧ Keep h0 h [a1] ∧ Exa Z h a1 "com/example/inflight/inflight/Outcome" ∧ Fld Z h a1 "com/example/inflight/inflight/Outcome" "value" "Ljava/lang/Object;" .null ∧ Fld Z h a1 "com/example/inflight/inflight/Outcome" "failure" "Lcom/example/inflight/inflight/ApiException;" .null
set_option maxRecDepth 65536 in
set_option maxHeartbeats 40000000 in
theorem rm15_nn (l : Launch) (Z : State) (a0 : Array Value) (hw : ∀ d ∈ tables_1, d.before a0 Z = true) (a1 : Addr) (w_value_a1 : Value) (w_failure_a1 : Value) (h0 : Heap) (n0 : Nat) (Zs : n0 ≤ h0.size) (E_a1 : Exa Z h0 a1 "com/example/inflight/inflight/Outcome") (F_value_a1 : Fld Z h0 a1 "com/example/inflight/inflight/Outcome" "value" "Ljava/lang/Object;" w_value_a1) (F_failure_a1 : Fld Z h0 a1 "com/example/inflight/inflight/Outcome" "failure" "Lcom/example/inflight/inflight/ApiException;" w_failure_a1) (g_a1 : n0 ≤ a1) :
    Met1 l Z (⟨"com/example/inflight/inflight/Outcome", "<init>", "(Ljava/lang/Object;Lcom/example/inflight/inflight/ApiException;)V"⟩ : MethodName) prog_11_method_1_code 3 none ({ frames := 2, cells := 0, slots := 0, locals := 24 } : Room) #[(.ref a1), .null, .null] h0 (Q15_nn Z a1 w_value_a1 w_failure_a1 h0 n0) := by
  refine own_met_of (plainFor_of_name pn_15) (ef_15_nn a1) ?_
  intro p e s m below meth c s₁ X hx hby hml hZ hown hnm hret hlk eT
  have hown : s.vm.findClass "com/example/inflight/inflight/Outcome" = some m.cls := hown
  have N := Fr.nil n0
  have K := Keep.refl h0 [a1]
  refine own_aloadN X hx hby (.ref a1) d15_0 rfl rfl 1 rfl ?_
  refine own_callC X hx hby hZ (st := []) [] rfl rfl hown (hw _ (List.mem_of_getElem? (i := 117) rfl)) (hw _ (List.mem_of_getElem? (i := 118) rfl)) (hw _ (List.mem_of_getElem? (i := 120) rfl)) (hw _ (List.mem_of_getElem? (i := 121) rfl)) (by decide) d15_1 (rm16 l Z a0 hw a1 h0 n0 Zs ) eT pd_1 rfl (by rw [hml]; rfl) (by decide) 0 rfl (by decide) (by decide) (by decide) 4 rfl ?_
  intro T1 L9 v9 X hQ
  obtain ⟨rfl, N9, eT⟩ := hQ
  have N := Fr.app N N9
  show Go p e below _ T1 (mkF m 4 #[.val (.ref a1), .val .null, .val .null] [])
  refine own_aloadN X hx hby (.ref a1) d15_4 rfl rfl 5 rfl ?_
  refine own_aloadN X hx hby .null d15_5 rfl rfl 6 rfl ?_
  refine own_putF X hx hby hZ hown (host := "") (Or.inl (hw _ (List.mem_of_getElem? (i := 123) rfl))) Via.refl eT F_value_a1 E_a1 (Or.inr ⟨(hw _ (List.mem_of_getElem? (i := 124) rfl)), rfl, hnm⟩) (hw _ (List.mem_of_getElem? (i := 112) rfl)) (ty := (.object "java/lang/Object")) (by decide) rfl rfl d15_6 9 rfl ?_
  intro T6 h6 X eT W
  have E_a1 := E_a1.wr W
  have F_value_a1 := F_value_a1.same W
  have F_failure_a1 := F_failure_a1.other W (Or.inr (slot_ne (Or.inr (hw _ (List.mem_of_getElem? (i := 126) rfl))) (Or.inr (hw _ (List.mem_of_getElem? (i := 124) rfl))) (by decide) (t := (.object "com/example/inflight/inflight/ApiException")) (t' := (.object "java/lang/Object")) (by decide) (by decide)))
  have N := Fr.snoc X N g_a1
  have K := K.wr W (Or.inl (List.mem_of_getElem? (i := 0) rfl))
  have Zs := Nat.le_trans Zs (Keep.of_wr W).1
  refine own_aloadN X hx hby (.ref a1) d15_9 rfl rfl 10 rfl ?_
  refine own_aloadN X hx hby .null d15_10 rfl rfl 11 rfl ?_
  refine own_putF X hx hby hZ hown (host := "") (Or.inl (hw _ (List.mem_of_getElem? (i := 125) rfl))) Via.refl eT F_failure_a1 E_a1 (Or.inr ⟨(hw _ (List.mem_of_getElem? (i := 126) rfl)), rfl, hnm⟩) (hw _ (List.mem_of_getElem? (i := 112) rfl)) (ty := (.object "com/example/inflight/inflight/ApiException")) (by decide) rfl rfl d15_11 14 rfl ?_
  intro T11 h11 X eT W
  have E_a1 := E_a1.wr W
  have F_value_a1 := F_value_a1.other W (Or.inr (slot_ne (Or.inr (hw _ (List.mem_of_getElem? (i := 124) rfl))) (Or.inr (hw _ (List.mem_of_getElem? (i := 126) rfl))) (by decide) (t := (.object "java/lang/Object")) (t' := (.object "com/example/inflight/inflight/ApiException")) (by decide) (by decide)))
  have F_failure_a1 := F_failure_a1.same W
  have N := Fr.snoc X N g_a1
  have K := K.wr W (Or.inl (List.mem_of_getElem? (i := 0) rfl))
  have Zs := Nat.le_trans Zs (Keep.of_wr W).1
  refine own_ret X hx hby hret hlk d15_14 (by decide) (by decide) ?_
  rw [eT]
  exact ⟨rfl, N, K, E_a1, F_value_a1, F_failure_a1⟩
theorem ef_15_nr (a1 : Addr) (a3 : Addr) (m : MethodId) : entryFrame m #[(.ref a1), .null, (.ref a3)] 3 = mkF m 0 #[.val (.ref a1), .val .null, .val (.ref a3)] [] := by first | (simp [entryFrame, mkF, argsToLocals, Value.category]; done) | rfl
def Q15_nr (Z : State) (a1 : Addr) (a3 : Addr) (w_value_a1 : Value) (w_failure_a1 : Value) (h0 : Heap) (n0 : Nat) (v : Option Value) (h : Heap) (L : List Loc) : Prop := v = none ∧ Fr n0 L ∧ Keep h0 h [a1] ∧ Exa Z h a1 "com/example/inflight/inflight/Outcome" ∧ Fld Z h a1 "com/example/inflight/inflight/Outcome" "value" "Ljava/lang/Object;" .null ∧ Fld Z h a1 "com/example/inflight/inflight/Outcome" "failure" "Lcom/example/inflight/inflight/ApiException;" (.ref a3)
set_option maxRecDepth 65536 in
set_option maxHeartbeats 40000000 in
theorem rm15_nr (l : Launch) (Z : State) (a0 : Array Value) (hw : ∀ d ∈ tables_1, d.before a0 Z = true) (a1 : Addr) (a3 : Addr) (w_value_a1 : Value) (w_failure_a1 : Value) (h0 : Heap) (n0 : Nat) (Zs : n0 ≤ h0.size) (E_a1 : Exa Z h0 a1 "com/example/inflight/inflight/Outcome") (F_value_a1 : Fld Z h0 a1 "com/example/inflight/inflight/Outcome" "value" "Ljava/lang/Object;" w_value_a1) (F_failure_a1 : Fld Z h0 a1 "com/example/inflight/inflight/Outcome" "failure" "Lcom/example/inflight/inflight/ApiException;" w_failure_a1) (g_a1 : n0 ≤ a1) :
    Met1 l Z (⟨"com/example/inflight/inflight/Outcome", "<init>", "(Ljava/lang/Object;Lcom/example/inflight/inflight/ApiException;)V"⟩ : MethodName) prog_11_method_1_code 3 none ({ frames := 2, cells := 0, slots := 0, locals := 24 } : Room) #[(.ref a1), .null, (.ref a3)] h0 (Q15_nr Z a1 a3 w_value_a1 w_failure_a1 h0 n0) := by
  refine own_met_of (plainFor_of_name pn_15) (ef_15_nr a1 a3) ?_
  intro p e s m below meth c s₁ X hx hby hml hZ hown hnm hret hlk eT
  have hown : s.vm.findClass "com/example/inflight/inflight/Outcome" = some m.cls := hown
  have N := Fr.nil n0
  have K := Keep.refl h0 [a1]
  refine own_aloadN X hx hby (.ref a1) d15_0 rfl rfl 1 rfl ?_
  refine own_callC X hx hby hZ (st := []) [] rfl rfl hown (hw _ (List.mem_of_getElem? (i := 117) rfl)) (hw _ (List.mem_of_getElem? (i := 118) rfl)) (hw _ (List.mem_of_getElem? (i := 120) rfl)) (hw _ (List.mem_of_getElem? (i := 121) rfl)) (by decide) d15_1 (rm16 l Z a0 hw a1 h0 n0 Zs ) eT pd_1 rfl (by rw [hml]; rfl) (by decide) 0 rfl (by decide) (by decide) (by decide) 4 rfl ?_
  intro T1 L9 v9 X hQ
  obtain ⟨rfl, N9, eT⟩ := hQ
  have N := Fr.app N N9
  show Go p e below _ T1 (mkF m 4 #[.val (.ref a1), .val .null, .val (.ref a3)] [])
  refine own_aloadN X hx hby (.ref a1) d15_4 rfl rfl 5 rfl ?_
  refine own_aloadN X hx hby .null d15_5 rfl rfl 6 rfl ?_
  refine own_putF X hx hby hZ hown (host := "") (Or.inl (hw _ (List.mem_of_getElem? (i := 123) rfl))) Via.refl eT F_value_a1 E_a1 (Or.inr ⟨(hw _ (List.mem_of_getElem? (i := 124) rfl)), rfl, hnm⟩) (hw _ (List.mem_of_getElem? (i := 112) rfl)) (ty := (.object "java/lang/Object")) (by decide) rfl rfl d15_6 9 rfl ?_
  intro T6 h6 X eT W
  have E_a1 := E_a1.wr W
  have F_value_a1 := F_value_a1.same W
  have F_failure_a1 := F_failure_a1.other W (Or.inr (slot_ne (Or.inr (hw _ (List.mem_of_getElem? (i := 126) rfl))) (Or.inr (hw _ (List.mem_of_getElem? (i := 124) rfl))) (by decide) (t := (.object "com/example/inflight/inflight/ApiException")) (t' := (.object "java/lang/Object")) (by decide) (by decide)))
  have N := Fr.snoc X N g_a1
  have K := K.wr W (Or.inl (List.mem_of_getElem? (i := 0) rfl))
  have Zs := Nat.le_trans Zs (Keep.of_wr W).1
  refine own_aloadN X hx hby (.ref a1) d15_9 rfl rfl 10 rfl ?_
  refine own_aloadN X hx hby (.ref a3) d15_10 rfl rfl 11 rfl ?_
  refine own_putF X hx hby hZ hown (host := "") (Or.inl (hw _ (List.mem_of_getElem? (i := 125) rfl))) Via.refl eT F_failure_a1 E_a1 (Or.inr ⟨(hw _ (List.mem_of_getElem? (i := 126) rfl)), rfl, hnm⟩) (hw _ (List.mem_of_getElem? (i := 112) rfl)) (ty := (.object "com/example/inflight/inflight/ApiException")) (by decide) rfl rfl d15_11 14 rfl ?_
  intro T11 h11 X eT W
  have E_a1 := E_a1.wr W
  have F_value_a1 := F_value_a1.other W (Or.inr (slot_ne (Or.inr (hw _ (List.mem_of_getElem? (i := 124) rfl))) (Or.inr (hw _ (List.mem_of_getElem? (i := 126) rfl))) (by decide) (t := (.object "java/lang/Object")) (t' := (.object "com/example/inflight/inflight/ApiException")) (by decide) (by decide)))
  have F_failure_a1 := F_failure_a1.same W
  have N := Fr.snoc X N g_a1
  have K := K.wr W (Or.inl (List.mem_of_getElem? (i := 0) rfl))
  have Zs := Nat.le_trans Zs (Keep.of_wr W).1
  refine own_ret X hx hby hret hlk d15_14 (by decide) (by decide) ?_
  rw [eT]
  exact ⟨rfl, N, K, E_a1, F_value_a1, F_failure_a1⟩
theorem ef_15_rn (a1 : Addr) (a2 : Addr) (m : MethodId) : entryFrame m #[(.ref a1), (.ref a2), .null] 3 = mkF m 0 #[.val (.ref a1), .val (.ref a2), .val .null] [] := by first | (simp [entryFrame, mkF, argsToLocals, Value.category]; done) | rfl
def Q15_rn (Z : State) (a1 : Addr) (a2 : Addr) (w_value_a1 : Value) (w_failure_a1 : Value) (h0 : Heap) (n0 : Nat) (v : Option Value) (h : Heap) (L : List Loc) : Prop := v = none ∧ Fr n0 L ∧ Keep h0 h [a1] ∧ Exa Z h a1 "com/example/inflight/inflight/Outcome" ∧ Fld Z h a1 "com/example/inflight/inflight/Outcome" "value" "Ljava/lang/Object;" (.ref a2) ∧ Fld Z h a1 "com/example/inflight/inflight/Outcome" "failure" "Lcom/example/inflight/inflight/ApiException;" .null
set_option maxRecDepth 65536 in
set_option maxHeartbeats 40000000 in
theorem rm15_rn (l : Launch) (Z : State) (a0 : Array Value) (hw : ∀ d ∈ tables_1, d.before a0 Z = true) (a1 : Addr) (a2 : Addr) (w_value_a1 : Value) (w_failure_a1 : Value) (h0 : Heap) (n0 : Nat) (Zs : n0 ≤ h0.size) (E_a1 : Exa Z h0 a1 "com/example/inflight/inflight/Outcome") (F_value_a1 : Fld Z h0 a1 "com/example/inflight/inflight/Outcome" "value" "Ljava/lang/Object;" w_value_a1) (F_failure_a1 : Fld Z h0 a1 "com/example/inflight/inflight/Outcome" "failure" "Lcom/example/inflight/inflight/ApiException;" w_failure_a1) (g_a1 : n0 ≤ a1) :
    Met1 l Z (⟨"com/example/inflight/inflight/Outcome", "<init>", "(Ljava/lang/Object;Lcom/example/inflight/inflight/ApiException;)V"⟩ : MethodName) prog_11_method_1_code 3 none ({ frames := 2, cells := 0, slots := 0, locals := 24 } : Room) #[(.ref a1), (.ref a2), .null] h0 (Q15_rn Z a1 a2 w_value_a1 w_failure_a1 h0 n0) := by
  refine own_met_of (plainFor_of_name pn_15) (ef_15_rn a1 a2) ?_
  intro p e s m below meth c s₁ X hx hby hml hZ hown hnm hret hlk eT
  have hown : s.vm.findClass "com/example/inflight/inflight/Outcome" = some m.cls := hown
  have N := Fr.nil n0
  have K := Keep.refl h0 [a1]
  refine own_aloadN X hx hby (.ref a1) d15_0 rfl rfl 1 rfl ?_
  refine own_callC X hx hby hZ (st := []) [] rfl rfl hown (hw _ (List.mem_of_getElem? (i := 117) rfl)) (hw _ (List.mem_of_getElem? (i := 118) rfl)) (hw _ (List.mem_of_getElem? (i := 120) rfl)) (hw _ (List.mem_of_getElem? (i := 121) rfl)) (by decide) d15_1 (rm16 l Z a0 hw a1 h0 n0 Zs ) eT pd_1 rfl (by rw [hml]; rfl) (by decide) 0 rfl (by decide) (by decide) (by decide) 4 rfl ?_
  intro T1 L9 v9 X hQ
  obtain ⟨rfl, N9, eT⟩ := hQ
  have N := Fr.app N N9
  show Go p e below _ T1 (mkF m 4 #[.val (.ref a1), .val (.ref a2), .val .null] [])
  refine own_aloadN X hx hby (.ref a1) d15_4 rfl rfl 5 rfl ?_
  refine own_aloadN X hx hby (.ref a2) d15_5 rfl rfl 6 rfl ?_
  refine own_putF X hx hby hZ hown (host := "") (Or.inl (hw _ (List.mem_of_getElem? (i := 123) rfl))) Via.refl eT F_value_a1 E_a1 (Or.inr ⟨(hw _ (List.mem_of_getElem? (i := 124) rfl)), rfl, hnm⟩) (hw _ (List.mem_of_getElem? (i := 112) rfl)) (ty := (.object "java/lang/Object")) (by decide) rfl rfl d15_6 9 rfl ?_
  intro T6 h6 X eT W
  have E_a1 := E_a1.wr W
  have F_value_a1 := F_value_a1.same W
  have F_failure_a1 := F_failure_a1.other W (Or.inr (slot_ne (Or.inr (hw _ (List.mem_of_getElem? (i := 126) rfl))) (Or.inr (hw _ (List.mem_of_getElem? (i := 124) rfl))) (by decide) (t := (.object "com/example/inflight/inflight/ApiException")) (t' := (.object "java/lang/Object")) (by decide) (by decide)))
  have N := Fr.snoc X N g_a1
  have K := K.wr W (Or.inl (List.mem_of_getElem? (i := 0) rfl))
  have Zs := Nat.le_trans Zs (Keep.of_wr W).1
  refine own_aloadN X hx hby (.ref a1) d15_9 rfl rfl 10 rfl ?_
  refine own_aloadN X hx hby .null d15_10 rfl rfl 11 rfl ?_
  refine own_putF X hx hby hZ hown (host := "") (Or.inl (hw _ (List.mem_of_getElem? (i := 125) rfl))) Via.refl eT F_failure_a1 E_a1 (Or.inr ⟨(hw _ (List.mem_of_getElem? (i := 126) rfl)), rfl, hnm⟩) (hw _ (List.mem_of_getElem? (i := 112) rfl)) (ty := (.object "com/example/inflight/inflight/ApiException")) (by decide) rfl rfl d15_11 14 rfl ?_
  intro T11 h11 X eT W
  have E_a1 := E_a1.wr W
  have F_value_a1 := F_value_a1.other W (Or.inr (slot_ne (Or.inr (hw _ (List.mem_of_getElem? (i := 124) rfl))) (Or.inr (hw _ (List.mem_of_getElem? (i := 126) rfl))) (by decide) (t := (.object "java/lang/Object")) (t' := (.object "com/example/inflight/inflight/ApiException")) (by decide) (by decide)))
  have F_failure_a1 := F_failure_a1.same W
  have N := Fr.snoc X N g_a1
  have K := K.wr W (Or.inl (List.mem_of_getElem? (i := 0) rfl))
  have Zs := Nat.le_trans Zs (Keep.of_wr W).1
  refine own_ret X hx hby hret hlk d15_14 (by decide) (by decide) ?_
  rw [eT]
  exact ⟨rfl, N, K, E_a1, F_value_a1, F_failure_a1⟩
theorem ef_15_rr (a1 : Addr) (a2 : Addr) (a3 : Addr) (m : MethodId) : entryFrame m #[(.ref a1), (.ref a2), (.ref a3)] 3 = mkF m 0 #[.val (.ref a1), .val (.ref a2), .val (.ref a3)] [] := by first | (simp [entryFrame, mkF, argsToLocals, Value.category]; done) | rfl
def Q15_rr (Z : State) (a1 : Addr) (a2 : Addr) (a3 : Addr) (w_value_a1 : Value) (w_failure_a1 : Value) (h0 : Heap) (n0 : Nat) (v : Option Value) (h : Heap) (L : List Loc) : Prop := v = none ∧ Fr n0 L ∧ Keep h0 h [a1] ∧ Exa Z h a1 "com/example/inflight/inflight/Outcome" ∧ Fld Z h a1 "com/example/inflight/inflight/Outcome" "value" "Ljava/lang/Object;" (.ref a2) ∧ Fld Z h a1 "com/example/inflight/inflight/Outcome" "failure" "Lcom/example/inflight/inflight/ApiException;" (.ref a3)
set_option maxRecDepth 65536 in
set_option maxHeartbeats 40000000 in
theorem rm15_rr (l : Launch) (Z : State) (a0 : Array Value) (hw : ∀ d ∈ tables_1, d.before a0 Z = true) (a1 : Addr) (a2 : Addr) (a3 : Addr) (w_value_a1 : Value) (w_failure_a1 : Value) (h0 : Heap) (n0 : Nat) (Zs : n0 ≤ h0.size) (E_a1 : Exa Z h0 a1 "com/example/inflight/inflight/Outcome") (F_value_a1 : Fld Z h0 a1 "com/example/inflight/inflight/Outcome" "value" "Ljava/lang/Object;" w_value_a1) (F_failure_a1 : Fld Z h0 a1 "com/example/inflight/inflight/Outcome" "failure" "Lcom/example/inflight/inflight/ApiException;" w_failure_a1) (g_a1 : n0 ≤ a1) :
    Met1 l Z (⟨"com/example/inflight/inflight/Outcome", "<init>", "(Ljava/lang/Object;Lcom/example/inflight/inflight/ApiException;)V"⟩ : MethodName) prog_11_method_1_code 3 none ({ frames := 2, cells := 0, slots := 0, locals := 24 } : Room) #[(.ref a1), (.ref a2), (.ref a3)] h0 (Q15_rr Z a1 a2 a3 w_value_a1 w_failure_a1 h0 n0) := by
  refine own_met_of (plainFor_of_name pn_15) (ef_15_rr a1 a2 a3) ?_
  intro p e s m below meth c s₁ X hx hby hml hZ hown hnm hret hlk eT
  have hown : s.vm.findClass "com/example/inflight/inflight/Outcome" = some m.cls := hown
  have N := Fr.nil n0
  have K := Keep.refl h0 [a1]
  refine own_aloadN X hx hby (.ref a1) d15_0 rfl rfl 1 rfl ?_
  refine own_callC X hx hby hZ (st := []) [] rfl rfl hown (hw _ (List.mem_of_getElem? (i := 117) rfl)) (hw _ (List.mem_of_getElem? (i := 118) rfl)) (hw _ (List.mem_of_getElem? (i := 120) rfl)) (hw _ (List.mem_of_getElem? (i := 121) rfl)) (by decide) d15_1 (rm16 l Z a0 hw a1 h0 n0 Zs ) eT pd_1 rfl (by rw [hml]; rfl) (by decide) 0 rfl (by decide) (by decide) (by decide) 4 rfl ?_
  intro T1 L9 v9 X hQ
  obtain ⟨rfl, N9, eT⟩ := hQ
  have N := Fr.app N N9
  show Go p e below _ T1 (mkF m 4 #[.val (.ref a1), .val (.ref a2), .val (.ref a3)] [])
  refine own_aloadN X hx hby (.ref a1) d15_4 rfl rfl 5 rfl ?_
  refine own_aloadN X hx hby (.ref a2) d15_5 rfl rfl 6 rfl ?_
  refine own_putF X hx hby hZ hown (host := "") (Or.inl (hw _ (List.mem_of_getElem? (i := 123) rfl))) Via.refl eT F_value_a1 E_a1 (Or.inr ⟨(hw _ (List.mem_of_getElem? (i := 124) rfl)), rfl, hnm⟩) (hw _ (List.mem_of_getElem? (i := 112) rfl)) (ty := (.object "java/lang/Object")) (by decide) rfl rfl d15_6 9 rfl ?_
  intro T6 h6 X eT W
  have E_a1 := E_a1.wr W
  have F_value_a1 := F_value_a1.same W
  have F_failure_a1 := F_failure_a1.other W (Or.inr (slot_ne (Or.inr (hw _ (List.mem_of_getElem? (i := 126) rfl))) (Or.inr (hw _ (List.mem_of_getElem? (i := 124) rfl))) (by decide) (t := (.object "com/example/inflight/inflight/ApiException")) (t' := (.object "java/lang/Object")) (by decide) (by decide)))
  have N := Fr.snoc X N g_a1
  have K := K.wr W (Or.inl (List.mem_of_getElem? (i := 0) rfl))
  have Zs := Nat.le_trans Zs (Keep.of_wr W).1
  refine own_aloadN X hx hby (.ref a1) d15_9 rfl rfl 10 rfl ?_
  refine own_aloadN X hx hby (.ref a3) d15_10 rfl rfl 11 rfl ?_
  refine own_putF X hx hby hZ hown (host := "") (Or.inl (hw _ (List.mem_of_getElem? (i := 125) rfl))) Via.refl eT F_failure_a1 E_a1 (Or.inr ⟨(hw _ (List.mem_of_getElem? (i := 126) rfl)), rfl, hnm⟩) (hw _ (List.mem_of_getElem? (i := 112) rfl)) (ty := (.object "com/example/inflight/inflight/ApiException")) (by decide) rfl rfl d15_11 14 rfl ?_
  intro T11 h11 X eT W
  have E_a1 := E_a1.wr W
  have F_value_a1 := F_value_a1.other W (Or.inr (slot_ne (Or.inr (hw _ (List.mem_of_getElem? (i := 124) rfl))) (Or.inr (hw _ (List.mem_of_getElem? (i := 126) rfl))) (by decide) (t := (.object "java/lang/Object")) (t' := (.object "com/example/inflight/inflight/ApiException")) (by decide) (by decide)))
  have F_failure_a1 := F_failure_a1.same W
  have N := Fr.snoc X N g_a1
  have K := K.wr W (Or.inl (List.mem_of_getElem? (i := 0) rfl))
  have Zs := Nat.le_trans Zs (Keep.of_wr W).1
  refine own_ret X hx hby hret hlk d15_14 (by decide) (by decide) ?_
  rw [eT]
  exact ⟨rfl, N, K, E_a1, F_value_a1, F_failure_a1⟩
theorem ef_17_n (a1 : Addr) (m : MethodId) : entryFrame m #[(.ref a1)] 1 = mkF m 0 #[.val (.ref a1)] [] := by first | (simp [entryFrame, mkF, argsToLocals, Value.category]; done) | rfl
def Q17_n (Z : State) (a1 : Addr) (h0 : Heap) (n0 : Nat) (v : Option Value) (h : Heap) (L : List Loc) : Prop := v = some (.int (0 : Int32)) ∧ Fr n0 L ∧ h = h0
set_option maxRecDepth 65536 in
set_option maxHeartbeats 40000000 in
theorem rm17_n (l : Launch) (Z : State) (a0 : Array Value) (hw : ∀ d ∈ tables_1, d.before a0 Z = true) (a1 : Addr) (h0 : Heap) (n0 : Nat) (Zs : n0 ≤ h0.size) (F_failure_a1 : Fld Z h0 a1 "com/example/inflight/inflight/Outcome" "failure" "Lcom/example/inflight/inflight/ApiException;" .null) :
    Met1 l Z (⟨"com/example/inflight/inflight/Outcome", "isFailed", "()Z"⟩ : MethodName) prog_11_method_4_code 1 (some .boolean) ({ frames := 0, cells := 0, slots := 0, locals := 0 } : Room) #[(.ref a1)] h0 (Q17_n Z a1 h0 n0) := by
  refine own_met_of (plainFor_of_name pn_15) (ef_17_n a1) ?_
  intro p e s m below meth c s₁ X hx hby hml hZ hown hnm hret hlk eT
  have hown : s.vm.findClass "com/example/inflight/inflight/Outcome" = some m.cls := hown
  have N := Fr.nil n0
  refine own_aloadN X hx hby (.ref a1) d17_0 rfl rfl 1 rfl ?_
  refine own_getF X hx hby hZ hown (host := "") (Or.inl (hw _ (List.mem_of_getElem? (i := 125) rfl))) Via.refl eT F_failure_a1 d17_1 4 rfl ?_
  intro T1 X eT
  refine own_ifnullY X hx hby d17_4 11 (by decide) ?_
  refine own_iconst X hx hby (0 : Int32) d17_11 rfl 12 rfl ?_
  refine own_retN X hx hby hret hlk (t := .boolean) (z' := (0 : Int32)) (by simp) d17_12 (by decide) (by decide) rfl ?_
  rw [eT]
  exact ⟨rfl, N, rfl⟩
theorem ef_17_r (a1 : Addr) (m : MethodId) : entryFrame m #[(.ref a1)] 1 = mkF m 0 #[.val (.ref a1)] [] := by first | (simp [entryFrame, mkF, argsToLocals, Value.category]; done) | rfl
def Q17_r (Z : State) (a1 : Addr) (r1 : Addr) (h0 : Heap) (n0 : Nat) (v : Option Value) (h : Heap) (L : List Loc) : Prop := v = some (.int (1 : Int32)) ∧ Fr n0 L ∧ h = h0
set_option maxRecDepth 65536 in
set_option maxHeartbeats 40000000 in
theorem rm17_r (l : Launch) (Z : State) (a0 : Array Value) (hw : ∀ d ∈ tables_1, d.before a0 Z = true) (a1 : Addr) (r1 : Addr) (h0 : Heap) (n0 : Nat) (Zs : n0 ≤ h0.size) (F_failure_a1 : Fld Z h0 a1 "com/example/inflight/inflight/Outcome" "failure" "Lcom/example/inflight/inflight/ApiException;" (.ref r1)) :
    Met1 l Z (⟨"com/example/inflight/inflight/Outcome", "isFailed", "()Z"⟩ : MethodName) prog_11_method_4_code 1 (some .boolean) ({ frames := 0, cells := 0, slots := 0, locals := 0 } : Room) #[(.ref a1)] h0 (Q17_r Z a1 r1 h0 n0) := by
  refine own_met_of (plainFor_of_name pn_15) (ef_17_r a1) ?_
  intro p e s m below meth c s₁ X hx hby hml hZ hown hnm hret hlk eT
  have hown : s.vm.findClass "com/example/inflight/inflight/Outcome" = some m.cls := hown
  have N := Fr.nil n0
  refine own_aloadN X hx hby (.ref a1) d17_0 rfl rfl 1 rfl ?_
  refine own_getF X hx hby hZ hown (host := "") (Or.inl (hw _ (List.mem_of_getElem? (i := 125) rfl))) Via.refl eT F_failure_a1 d17_1 4 rfl ?_
  intro T1 X eT
  refine own_ifnullN X hx hby d17_4 7 rfl ?_
  refine own_iconst X hx hby (1 : Int32) d17_7 rfl 8 rfl ?_
  refine own_goto X hx hby d17_8 12 (by decide) ?_
  refine own_retN X hx hby hret hlk (t := .boolean) (z' := (1 : Int32)) (by simp) d17_12 (by decide) (by decide) rfl ?_
  rw [eT]
  exact ⟨rfl, N, rfl⟩
theorem ef_18_n  (m : MethodId) : entryFrame m #[.null] 1 = mkF m 0 #[.val .null] [] := by first | (simp [entryFrame, mkF, argsToLocals, Value.category]; done) | rfl
def Q18_n (Z : State)  (h0 : Heap) (n0 : Nat) (v : Option Value) (h : Heap) (L : List Loc) : Prop := ∃ (b0 : Addr), v = some (.ref b0) ∧ Fr n0 L ∧ Keep h0 h [] ∧ h0.size ≤ b0 ∧ Exa Z h b0 "com/example/inflight/inflight/Outcome" ∧ Fld Z h b0 "com/example/inflight/inflight/Outcome" "value" "Ljava/lang/Object;" .null ∧ Fld Z h b0 "com/example/inflight/inflight/Outcome" "failure" "Lcom/example/inflight/inflight/ApiException;" .null
set_option maxRecDepth 65536 in
set_option maxHeartbeats 40000000 in
theorem rm18_n (l : Launch) (Z : State) (a0 : Array Value) (hw : ∀ d ∈ tables_1, d.before a0 Z = true)  (h0 : Heap) (n0 : Nat) (Zs : n0 ≤ h0.size) :
    Met1 l Z (⟨"com/example/inflight/inflight/Outcome", "of", "(Ljava/lang/Object;)Lcom/example/inflight/inflight/Outcome;"⟩ : MethodName) prog_11_method_2_code 1 (some (.object "com/example/inflight/inflight/Outcome")) ({ frames := 3, cells := 1, slots := 2, locals := 39 } : Room) #[.null] h0 (Q18_n Z  h0 n0) := by
  refine own_met_of (plainFor_of_name pn_15) (ef_18_n ) ?_
  intro p e s m below meth c s₁ X hx hby hml hZ hown hnm hret hlk eT
  have hown : s.vm.findClass "com/example/inflight/inflight/Outcome" = some m.cls := hown
  have N := Fr.nil n0
  have K := Keep.refl h0 []
  refine own_new X hx hby hZ hown (hw _ (List.mem_of_getElem? (i := 135) rfl)) (hw _ (List.mem_of_getElem? (i := 112) rfl)) (hw _ (List.mem_of_getElem? (i := 113) rfl)) eT d18_0 (by decide) (by decide) 3 rfl ?_
  intro T0 hz0 b0 gb0 X eT Ex A D
  have g_b0 : n0 ≤ b0 := by rw [gb0]; exact Zs
  have sz_b0 : h0.size ≤ b0 := by rw [gb0]; exact K.1
  have E_b0 := A
  have F_value_b0 : Fld Z hz0 b0 "com/example/inflight/inflight/Outcome" "value" "Ljava/lang/Object;" .null := D (Or.inr (hw _ (List.mem_of_getElem? (i := 124) rfl))) (ty := (.object "java/lang/Object")) (by decide)
  have F_failure_b0 : Fld Z hz0 b0 "com/example/inflight/inflight/Outcome" "failure" "Lcom/example/inflight/inflight/ApiException;" .null := D (Or.inr (hw _ (List.mem_of_getElem? (i := 126) rfl))) (ty := (.object "com/example/inflight/inflight/ApiException")) (by decide)
  have K := K.ext Ex
  have Zs := Nat.le_trans Zs Ex.1
  refine own_dup X hx hby d18_3 rfl 4 rfl ?_
  refine own_aloadN X hx hby .null d18_4 rfl rfl 5 rfl ?_
  refine own_aconstNull X hx hby d18_5 6 rfl ?_
  refine own_callC X hx hby hZ (st := [(.ref b0)]) [.null, .null] rfl rfl hown (hw _ (List.mem_of_getElem? (i := 136) rfl)) (hw _ (List.mem_of_getElem? (i := 115) rfl)) (hw _ (List.mem_of_getElem? (i := 113) rfl)) (hw _ (List.mem_of_getElem? (i := 116) rfl)) (by decide) d18_6 (rm15_nn l Z a0 hw b0 .null .null hz0 n0 Zs E_b0 F_value_b0 F_failure_b0 g_b0) eT pd_9 rfl (by rw [hml]; rfl) (by decide) 1 rfl (by decide) (by decide) (by decide) 9 rfl ?_
  intro T6 L9 v9 X hQ
  obtain ⟨h6, eT⟩ : ∃ z, T6.heap = z := ⟨_, rfl⟩
  rw [eT] at hQ
  obtain ⟨rfl, N9, Kc, E_b0, F_value_b0, F_failure_b0⟩ := hQ
  have K := K.trans Kc (allS (Or.inr sz_b0) all0)
  have Zs := Nat.le_trans Zs Kc.1
  have N := Fr.app N N9
  show Go p e below _ T6 (mkF m 9 #[.val .null] [(.ref b0)])
  refine own_retA X hx hby hret hlk rfl rfl rfl d18_9 (by decide) (by decide) ?_
  rw [eT]
  exact ⟨b0, rfl, N, K, sz_b0, E_b0, F_value_b0, F_failure_b0⟩
theorem ef_18_r (a1 : Addr) (m : MethodId) : entryFrame m #[(.ref a1)] 1 = mkF m 0 #[.val (.ref a1)] [] := by first | (simp [entryFrame, mkF, argsToLocals, Value.category]; done) | rfl
def Q18_r (Z : State) (a1 : Addr) (h0 : Heap) (n0 : Nat) (v : Option Value) (h : Heap) (L : List Loc) : Prop := ∃ (b0 : Addr), v = some (.ref b0) ∧ Fr n0 L ∧ Keep h0 h [] ∧ h0.size ≤ b0 ∧ Exa Z h b0 "com/example/inflight/inflight/Outcome" ∧ Fld Z h b0 "com/example/inflight/inflight/Outcome" "value" "Ljava/lang/Object;" (.ref a1) ∧ Fld Z h b0 "com/example/inflight/inflight/Outcome" "failure" "Lcom/example/inflight/inflight/ApiException;" .null
set_option maxRecDepth 65536 in
set_option maxHeartbeats 40000000 in
theorem rm18_r (l : Launch) (Z : State) (a0 : Array Value) (hw : ∀ d ∈ tables_1, d.before a0 Z = true) (a1 : Addr) (h0 : Heap) (n0 : Nat) (Zs : n0 ≤ h0.size) :
    Met1 l Z (⟨"com/example/inflight/inflight/Outcome", "of", "(Ljava/lang/Object;)Lcom/example/inflight/inflight/Outcome;"⟩ : MethodName) prog_11_method_2_code 1 (some (.object "com/example/inflight/inflight/Outcome")) ({ frames := 3, cells := 1, slots := 2, locals := 39 } : Room) #[(.ref a1)] h0 (Q18_r Z a1 h0 n0) := by
  refine own_met_of (plainFor_of_name pn_15) (ef_18_r a1) ?_
  intro p e s m below meth c s₁ X hx hby hml hZ hown hnm hret hlk eT
  have hown : s.vm.findClass "com/example/inflight/inflight/Outcome" = some m.cls := hown
  have N := Fr.nil n0
  have K := Keep.refl h0 []
  refine own_new X hx hby hZ hown (hw _ (List.mem_of_getElem? (i := 135) rfl)) (hw _ (List.mem_of_getElem? (i := 112) rfl)) (hw _ (List.mem_of_getElem? (i := 113) rfl)) eT d18_0 (by decide) (by decide) 3 rfl ?_
  intro T0 hz0 b0 gb0 X eT Ex A D
  have g_b0 : n0 ≤ b0 := by rw [gb0]; exact Zs
  have sz_b0 : h0.size ≤ b0 := by rw [gb0]; exact K.1
  have E_b0 := A
  have F_value_b0 : Fld Z hz0 b0 "com/example/inflight/inflight/Outcome" "value" "Ljava/lang/Object;" .null := D (Or.inr (hw _ (List.mem_of_getElem? (i := 124) rfl))) (ty := (.object "java/lang/Object")) (by decide)
  have F_failure_b0 : Fld Z hz0 b0 "com/example/inflight/inflight/Outcome" "failure" "Lcom/example/inflight/inflight/ApiException;" .null := D (Or.inr (hw _ (List.mem_of_getElem? (i := 126) rfl))) (ty := (.object "com/example/inflight/inflight/ApiException")) (by decide)
  have K := K.ext Ex
  have Zs := Nat.le_trans Zs Ex.1
  refine own_dup X hx hby d18_3 rfl 4 rfl ?_
  refine own_aloadN X hx hby (.ref a1) d18_4 rfl rfl 5 rfl ?_
  refine own_aconstNull X hx hby d18_5 6 rfl ?_
  refine own_callC X hx hby hZ (st := [(.ref b0)]) [(.ref a1), .null] rfl rfl hown (hw _ (List.mem_of_getElem? (i := 136) rfl)) (hw _ (List.mem_of_getElem? (i := 115) rfl)) (hw _ (List.mem_of_getElem? (i := 113) rfl)) (hw _ (List.mem_of_getElem? (i := 116) rfl)) (by decide) d18_6 (rm15_rn l Z a0 hw b0 a1 .null .null hz0 n0 Zs E_b0 F_value_b0 F_failure_b0 g_b0) eT pd_9 rfl (by rw [hml]; rfl) (by decide) 1 rfl (by decide) (by decide) (by decide) 9 rfl ?_
  intro T6 L9 v9 X hQ
  obtain ⟨h6, eT⟩ : ∃ z, T6.heap = z := ⟨_, rfl⟩
  rw [eT] at hQ
  obtain ⟨rfl, N9, Kc, E_b0, F_value_b0, F_failure_b0⟩ := hQ
  have K := K.trans Kc (allS (Or.inr sz_b0) all0)
  have Zs := Nat.le_trans Zs Kc.1
  have N := Fr.app N N9
  show Go p e below _ T6 (mkF m 9 #[.val (.ref a1)] [(.ref b0)])
  refine own_retA X hx hby hret hlk rfl rfl rfl d18_9 (by decide) (by decide) ?_
  rw [eT]
  exact ⟨b0, rfl, N, K, sz_b0, E_b0, F_value_b0, F_failure_b0⟩
theorem ef_19 (a1 : Addr) (m : MethodId) : entryFrame m #[(.ref a1)] 1 = mkF m 0 #[.val (.ref a1)] [] := by first | (simp [entryFrame, mkF, argsToLocals, Value.category]; done) | rfl
def Q19 (Z : State) (a1 : Addr) (h0 : Heap) (n0 : Nat) (v : Option Value) (h : Heap) (L : List Loc) : Prop := ∃ (b0 : Addr), v = some (.ref b0) ∧ Fr n0 L ∧ Keep h0 h [] ∧ h0.size ≤ b0 ∧ Exa Z h b0 "com/example/inflight/inflight/Outcome" ∧ Fld Z h b0 "com/example/inflight/inflight/Outcome" "value" "Ljava/lang/Object;" .null ∧ Fld Z h b0 "com/example/inflight/inflight/Outcome" "failure" "Lcom/example/inflight/inflight/ApiException;" (.ref a1)
set_option maxRecDepth 65536 in
set_option maxHeartbeats 40000000 in
theorem rm19 (l : Launch) (Z : State) (a0 : Array Value) (hw : ∀ d ∈ tables_1, d.before a0 Z = true) (a1 : Addr) (h0 : Heap) (n0 : Nat) (Zs : n0 ≤ h0.size) (E_a1 : Exa Z h0 a1 "com/example/inflight/inflight/ApiException") :
    Met1W l Z (⟨"com/example/inflight/inflight/Outcome", "failed", "(Lcom/example/inflight/inflight/ApiException;)Lcom/example/inflight/inflight/Outcome;"⟩ : MethodName) prog_11_method_3_code 1 (some (.object "com/example/inflight/inflight/Outcome")) ({ frames := 3, cells := 3, slots := 34, locals := 39 } : Room) #[(.ref a1)] h0 (Q19 Z a1 h0 n0) := by
  refine own_met_ofW (plainFor_of_name pn_15) (ef_19 a1) ?_
  intro p e s m below meth c s₁ vm0 X hx hby hml hZ hown hnm hret hlk eT hS hs0
  have hown : (s.setVm vm0).vm.findClass "com/example/inflight/inflight/Outcome" = some m.cls := hown
  have hk : 0 ≤ h0.size := Nat.zero_le _
  have N := Fr.nil n0
  have K := Keep.refl h0 []
  refine own_new X hx hby hZ hown (hw _ (List.mem_of_getElem? (i := 135) rfl)) (hw _ (List.mem_of_getElem? (i := 112) rfl)) (hw _ (List.mem_of_getElem? (i := 113) rfl)) eT d19_0 (by decide) (by decide) 3 rfl ?_
  intro T0 hz0 b0 gb0 X eT Ex A D
  have g_b0 : n0 ≤ b0 := by rw [gb0]; exact Zs
  have sz_b0 : h0.size ≤ b0 := by rw [gb0]; exact K.1
  have ne_a1_b0 : a1 ≠ b0 := Nat.ne_of_lt (by rw [gb0]; exact E_a1.lt)
  have hk := Nat.le_trans hk Ex.1
  have E_a1 := E_a1.ext Ex
  have E_b0 := A
  have F_value_b0 : Fld Z hz0 b0 "com/example/inflight/inflight/Outcome" "value" "Ljava/lang/Object;" .null := D (Or.inr (hw _ (List.mem_of_getElem? (i := 124) rfl))) (ty := (.object "java/lang/Object")) (by decide)
  have F_failure_b0 : Fld Z hz0 b0 "com/example/inflight/inflight/Outcome" "failure" "Lcom/example/inflight/inflight/ApiException;" .null := D (Or.inr (hw _ (List.mem_of_getElem? (i := 126) rfl))) (ty := (.object "com/example/inflight/inflight/ApiException")) (by decide)
  have K := K.ext Ex
  have Zs := Nat.le_trans Zs Ex.1
  refine own_dup X hx hby d19_3 rfl 4 rfl ?_
  refine own_aconstNull X hx hby d19_4 5 rfl ?_
  refine own_aloadN X hx hby (.ref a1) d19_5 rfl rfl 6 rfl ?_
  refine own_ldcS X hx hby hZ hown (hw _ (List.mem_of_getElem? (i := 140) rfl)) (own_wS hw) eT hS hk d19_6 28 (by decide) (by decide) (by decide) (by decide) 8 rfl ?_
  intro T6 h6 lit6 vm6 k6 X eT Ex hS hk hZ hown
  have E_a1 := E_a1.ext Ex
  have E_b0 := E_b0.ext Ex
  have F_value_b0 := F_value_b0.ext Ex
  have F_failure_b0 := F_failure_b0.ext Ex
  have K := K.ext Ex
  have Zs := Nat.le_trans Zs Ex.1
  refine own_callS X hx hby hZ (st := [.null, (.ref b0), (.ref b0)]) [(.ref a1), (.ref lit6)] rfl hown (hw _ (List.mem_of_getElem? (i := 141) rfl)) (hw _ (List.mem_of_getElem? (i := 104) rfl)) (hw _ (List.mem_of_getElem? (i := 105) rfl)) (hw _ (List.mem_of_getElem? (i := 106) rfl)) (by decide) d19_8 (rm14 l Z a0 hw a1 lit6 h6 n0 Zs ) eT pd_10 rfl (by rw [hml]; rfl) (by decide) 3 rfl (by decide) (by decide) (by decide) 11 rfl ?_
  intro T8 L9 v9 X hQ
  obtain ⟨rfl, N9, eT⟩ := hQ
  have N := Fr.app N N9
  show Go p e below _ T8 (mkF m 11 #[.val (.ref a1)] [(.ref a1), .null, (.ref b0), (.ref b0)])
  refine own_castY X hx hby hZ hown (hw _ (List.mem_of_getElem? (i := 142) rfl)) eT (Ins.self E_a1) d19_11 14 rfl ?_
  intro T11 X eT
  refine own_callC X hx hby hZ (st := [(.ref b0)]) [.null, (.ref a1)] rfl rfl hown (hw _ (List.mem_of_getElem? (i := 136) rfl)) (hw _ (List.mem_of_getElem? (i := 115) rfl)) (hw _ (List.mem_of_getElem? (i := 113) rfl)) (hw _ (List.mem_of_getElem? (i := 116) rfl)) (by decide) d19_14 (rm15_nr l Z a0 hw b0 a1 .null .null h6 n0 Zs E_b0 F_value_b0 F_failure_b0 g_b0) eT pd_9 rfl (by rw [hml]; rfl) (by decide) 1 rfl (by decide) (by decide) (by decide) 17 rfl ?_
  intro T14 L9 v9 X hQ
  obtain ⟨h14, eT⟩ : ∃ z, T14.heap = z := ⟨_, rfl⟩
  rw [eT] at hQ
  obtain ⟨rfl, N9, Kc, E_b0, F_value_b0, F_failure_b0⟩ := hQ
  have hk := Nat.le_trans hk Kc.1
  have E_a1 := E_a1.keep Kc
  have K := K.trans Kc (allS (Or.inr sz_b0) all0)
  have Zs := Nat.le_trans Zs Kc.1
  have N := Fr.app N N9
  show Go p e below _ T14 (mkF m 17 #[.val (.ref a1)] [(.ref b0)])
  refine own_retAW X hx hby hS (by rw [eT]; exact hk) hret hlk rfl rfl rfl d19_17 (by decide) (by decide) ?_
  rw [eT]
  exact ⟨b0, rfl, N, K, sz_b0, E_b0, F_value_b0, F_failure_b0⟩
theorem ef_0 (p1 : Int32) (p2 : Int32) (p3 : Int32) (m : MethodId) : entryFrame m #[(.int p1), (.int p2), (.int p3)] maxLocals = mkF m 0 #[.val (.int p1), .val (.int p2), .val (.int p3), .unset, .unset, .unset, .unset, .unset, .unset, .unset, .unset, .unset, .unset] [] := by first | (simp [entryFrame, mkF, argsToLocals, Value.category, maxLocals]; done) | rfl
def Q0 (Z : State) (p1 : Int32) (p2 : Int32) (p3 : Int32) (u_cache : Addr) (fc : Nat → Value) (u_INVALID_PARAMETER_VALUE : Addr) (u_COMPACT_STRINGS : Int32) (u_UNASSIGNED_STACK : Value) (u_SUPPRESSED_SENTINEL : Value) (h0 : Heap) (n0 : Nat) (v : Option Value) (h : Heap) (L : List Loc) : Prop := v = some (.int (1 : Int32)) ∧ Fr n0 L
theorem own_ch (x : Int32) : ¬ (255 : Int32) < (updI (fun _ => (0 : Int32)) 0 (nar .char ((x &&& (255 : Int32)).toUInt32.toUInt16.toUInt32.toInt32)) 0) := by
  show ¬ (255 : Int32) < nar .char ((x &&& (255 : Int32)).toUInt32.toUInt16.toUInt32.toInt32)
  have h := c_mask x (255 : Int32) 8 (by decide) (by decide)
  generalize x &&& (255 : Int32) = y at *
  have h1 := c_i2c y
  generalize y.toUInt32.toUInt16.toUInt32.toInt32 = z at *
  have h2 : ((nar .char z).toInt - z.toInt) % 65536 = 0 ∧ 0 ≤ (nar .char z).toInt ∧ (nar .char z).toInt < 65536 := c_i2c z
  generalize nar .char z = w at *
  rw [Int32.lt_iff_toInt_lt]
  have q : (255 : Int32).toInt = 255 := rfl
  omega
set_option maxRecDepth 65536 in
set_option maxHeartbeats 40000000 in
theorem rm0 (l : Launch) (Z : State) (a0 : Array Value) (hw : ∀ d ∈ tables_1, d.before a0 Z = true) (p1 : Int32) (p2 : Int32) (p3 : Int32) (u_cache : Addr) (fc : Nat → Value) (u_INVALID_PARAMETER_VALUE : Addr) (u_COMPACT_STRINGS : Int32) (u_UNASSIGNED_STACK : Value) (u_SUPPRESSED_SENTINEL : Value) (h0 : Heap) (n0 : Nat) (Zs : n0 ≤ h0.size) (A_cache : Afn Z h0 u_cache (.object "java/lang/Integer") 256 fc) (hfc : ∀ i, i < 256 → ∃ r : Addr, fc i = .ref r ∧ Exa Z h0 r "java/lang/Integer") (hcs : ¬ u_COMPACT_STRINGS = (0 : Int32)) (hst : l.stackTraces = true) (hU : u_UNASSIGNED_STACK.isRef = true) (hV : u_SUPPRESSED_SENTINEL.isRef = true) (S_high : Sta Z h0 "java/lang/Integer$IntegerCache" "high" "I" (.int (127 : Int32))) (S_cache : Sta Z h0 "java/lang/Integer$IntegerCache" "cache" "[Ljava/lang/Integer;" (.ref u_cache)) (S_COMPACT_STRINGS : Sta Z h0 "java/lang/String" "COMPACT_STRINGS" "Z" (.int u_COMPACT_STRINGS)) (S_INVALID_PARAMETER_VALUE : Sta Z h0 "com/example/inflight/inflight/ErrorCode" "INVALID_PARAMETER_VALUE" "Lcom/example/inflight/inflight/ErrorCode;" (.ref u_INVALID_PARAMETER_VALUE)) (S_UNASSIGNED_STACK : Sta Z h0 "java/lang/Throwable" "UNASSIGNED_STACK" "[Ljava/lang/StackTraceElement;" u_UNASSIGNED_STACK) (S_SUPPRESSED_SENTINEL : Sta Z h0 "java/lang/Throwable" "SUPPRESSED_SENTINEL" "Ljava/util/List;" u_SUPPRESSED_SENTINEL) (E_u_INVALID_PARAMETER_VALUE : Exa Z h0 u_INVALID_PARAMETER_VALUE "com/example/inflight/inflight/ErrorCode") :
    Met1K l Z x code maxLocals ret room_1 #[(.int p1), (.int p2), (.int p3)] h0 (Q0 Z p1 p2 p3 u_cache fc u_INVALID_PARAMETER_VALUE u_COMPACT_STRINGS u_UNASSIGNED_STACK u_SUPPRESSED_SENTINEL h0 n0) := by
  refine own_met_ofK (plainFor_of_name pn_0) (ef_0 p1 p2 p3) ?_
  intro p e s m below meth c s₁ vm0 X hx hby hml hZ hown hnm hret hlk eT hS hs0 hTK hBelow
  have hown : (s.setVm vm0).vm.findClass "com/example/inflight/inflight/OutcomeIsFailedPinLaw" = some m.cls := hown
  have hk : 0 ≤ h0.size := Nat.zero_le _
  have N := Fr.nil n0
  have K := Keep.refl h0 []
  refine own_iloadN X hx hby p2 at_0 rfl 1 rfl ?_
  refine own_iconst X hx hby (1 : Int32) at_1 rfl 2 rfl ?_
  refine own_iand X hx hby at_2 3 rfl ?_
  refine own_if_eq X hx hby at_3 10 6 (by decide) rfl (fun c3 => ?_) (fun c3 => ?_)
  · skip
    refine own_iconst X hx hby (0 : Int32) at_10 rfl 11 rfl ?_
    refine own_istoreN X hx hby at_11 rfl (l' := #[.val (.int p1), .val (.int p2), .val (.int p3), .val (.int (0 : Int32)), .unset, .unset, .unset, .unset, .unset, .unset, .unset, .unset, .unset]) rfl 12 rfl ?_
    refine own_iloadN X hx hby p2 at_12 rfl 13 rfl ?_
    refine own_iconst X hx hby (2 : Int32) at_13 rfl 14 rfl ?_
    refine own_iand X hx hby at_14 15 rfl ?_
    refine own_if_eq X hx hby at_15 22 18 (by decide) rfl (fun c15 => ?_) (fun c15 => ?_)
    · skip
      refine own_iconst X hx hby (0 : Int32) at_22 rfl 23 rfl ?_
      refine own_istore X hx hby at_23 rfl (l' := #[.val (.int p1), .val (.int p2), .val (.int p3), .val (.int (0 : Int32)), .val (.int (0 : Int32)), .unset, .unset, .unset, .unset, .unset, .unset, .unset, .unset]) rfl 25 rfl ?_
      refine own_iloadN X hx hby (0 : Int32) at_25 rfl 26 rfl ?_
      have c26 : (0 : Int32) = (0 : Int32) := by decide
      refine own_if_eq X hx hby at_26 36 29 (by decide) rfl (fun _ => ?_) (fun q => absurd c26 q)
      refine own_aconstNull X hx hby at_36 37 rfl ?_
      refine own_astore X hx hby at_37 rfl (l' := #[.val (.int p1), .val (.int p2), .val (.int p3), .val (.int (0 : Int32)), .val (.int (0 : Int32)), .val .null, .unset, .unset, .unset, .unset, .unset, .unset, .unset]) rfl 39 rfl ?_
      refine own_iconst X hx hby (1 : Int32) at_39 rfl 40 rfl ?_
      refine own_newarray X hx hby hZ (hw _ (List.mem_of_getElem? (i := 7) rfl)) eT at_40 (z := (1 : Int32)) (by decide) (n := 1) rfl (cap := 1) (by decide) (by decide) (by decide) (by decide) (ad := "[C") rfl 42 rfl ?_
      intro T40 h40 b40 gb40 X eT Ex A A2
      have g_b40 : n0 ≤ b40 := by rw [gb40]; exact Zs
      have sz_b40 : h0.size ≤ b40 := by rw [gb40]; exact K.1
      have hk := Nat.le_trans hk Ex.1
      have A_b40 : Afi Z h40 b40 .char 1 (fun _ => (0 : Int32)) := A
      have E_b40 := A2
      have K := K.ext Ex
      have Zs := Nat.le_trans Zs Ex.1
      refine own_astore X hx hby at_42 rfl (l' := #[.val (.int p1), .val (.int p2), .val (.int p3), .val (.int (0 : Int32)), .val (.int (0 : Int32)), .val .null, .val (.ref b40), .unset, .unset, .unset, .unset, .unset, .unset]) rfl 44 rfl ?_
      refine own_aload X hx hby (.ref b40) at_44 rfl rfl 46 rfl ?_
      refine own_iconst X hx hby (0 : Int32) at_46 rfl 47 rfl ?_
      refine own_iloadN X hx hby p3 at_47 rfl 48 rfl ?_
      refine own_sipush X hx hby (255 : Int32) at_48 rfl 51 rfl ?_
      refine own_iand X hx hby at_51 52 rfl ?_
      refine own_i2c X hx hby at_52 53 rfl ?_
      refine own_castore X hx hby hZ eT A_b40 (by decide) at_53 54 rfl ?_
      intro T53 h53 X eT W A
      have hk := Nat.le_trans hk (Keep.of_wr W).1
      have E_b40 := E_b40.wr W
      have A_b40 : Afi Z h53 b40 .char 1 (updI (fun _ => (0 : Int32)) 0 (nar .char ((p3 &&& (255 : Int32)).toUInt32.toUInt16.toUInt32.toInt32))) := A
      have N := Fr.snoc X N g_b40
      have K := K.wr W (Or.inr sz_b40)
      have Zs := Nat.le_trans Zs (Keep.of_wr W).1
      refine own_newU X hx hby hZ hown (hw _ (List.mem_of_getElem? (i := 8) rfl)) (hw _ (List.mem_of_getElem? (i := 9) rfl)) (hw _ (List.mem_of_getElem? (i := 10) rfl)) eT at_54 (by decide) (by decide) 57 rfl ?_
      intro T54 h54 b54 gb54 X eT Ex A D Un
      have g_b54 : n0 ≤ b54 := by rw [gb54]; exact Zs
      have sz_b54 : h0.size ≤ b54 := by rw [gb54]; exact K.1
      have ne_b40_b54 : b40 ≠ b54 := Nat.ne_of_lt (by rw [gb54]; exact A_b40.lt)
      have hk := Nat.le_trans hk Ex.1
      have A_b40 := A_b40.ext Ex
      have E_b40 := E_b40.ext Ex
      have U_b54 := Un
      have E_b54 := A
      have F_cause_b54 : Fld Z h54 b54 "java/lang/Throwable" "cause" "Ljava/lang/Throwable;" .null := D (Or.inl (hw _ (List.mem_of_getElem? (i := 65) rfl))) (ty := (.object "java/lang/Throwable")) (by decide)
      have F_stackTrace_b54 : Fld Z h54 b54 "java/lang/Throwable" "stackTrace" "[Ljava/lang/StackTraceElement;" .null := D (Or.inl (hw _ (List.mem_of_getElem? (i := 68) rfl))) (ty := (.array (.object "java/lang/StackTraceElement"))) (by decide)
      have F_suppressedExceptions_b54 : Fld Z h54 b54 "java/lang/Throwable" "suppressedExceptions" "Ljava/util/List;" .null := D (Or.inl (hw _ (List.mem_of_getElem? (i := 71) rfl))) (ty := (.object "java/util/List")) (by decide)
      have F_detailMessage_b54 : Fld Z h54 b54 "java/lang/Throwable" "detailMessage" "Ljava/lang/String;" .null := D (Or.inl (hw _ (List.mem_of_getElem? (i := 95) rfl))) (ty := (.object "java/lang/String")) (by decide)
      have F_backtrace_b54 : Fld Z h54 b54 "java/lang/Throwable" "backtrace" "Ljava/lang/Object;" .null := D (Or.inl (hw _ (List.mem_of_getElem? (i := 96) rfl))) (ty := (.object "java/lang/Object")) (by decide)
      have F_depth_b54 : Fld Z h54 b54 "java/lang/Throwable" "depth" "I" (.int (0 : Int32)) := D (Or.inl (hw _ (List.mem_of_getElem? (i := 97) rfl))) (ty := .int) (by decide)
      have F_errorCode_b54 : Fld Z h54 b54 "com/example/inflight/inflight/ApiException" "errorCode" "Lcom/example/inflight/inflight/ErrorCode;" .null := D (Or.inr (hw _ (List.mem_of_getElem? (i := 110) rfl))) (ty := (.object "com/example/inflight/inflight/ErrorCode")) (by decide)
      have K := K.ext Ex
      have Zs := Nat.le_trans Zs Ex.1
      refine own_dup X hx hby at_57 rfl 58 rfl ?_
      refine own_getS X hx hby hZ hown (host := "") (Or.inl (hw _ (List.mem_of_getElem? (i := 11) rfl))) Via.refl eT (S_INVALID_PARAMETER_VALUE.ext (own_ext0 K)) at_58 61 rfl ?_
      intro T58 X eT
      refine own_new X hx hby hZ hown (hw _ (List.mem_of_getElem? (i := 14) rfl)) (hw _ (List.mem_of_getElem? (i := 15) rfl)) (hw _ (List.mem_of_getElem? (i := 16) rfl)) eT at_61 (by decide) (by decide) 64 rfl ?_
      intro T61 h61 b61 gb61 X eT Ex A D
      have g_b61 : n0 ≤ b61 := by rw [gb61]; exact Zs
      have sz_b61 : h0.size ≤ b61 := by rw [gb61]; exact K.1
      have ne_b40_b61 : b40 ≠ b61 := Nat.ne_of_lt (by rw [gb61]; exact A_b40.lt)
      have ne_b54_b61 : b54 ≠ b61 := Nat.ne_of_lt (by rw [gb61]; exact E_b54.lt)
      have hk := Nat.le_trans hk Ex.1
      have A_b40 := A_b40.ext Ex
      have E_b40 := E_b40.ext Ex
      have U_b54 := Unt.ext Ex U_b54
      have E_b54 := E_b54.ext Ex
      have F_cause_b54 := F_cause_b54.ext Ex
      have F_stackTrace_b54 := F_stackTrace_b54.ext Ex
      have F_suppressedExceptions_b54 := F_suppressedExceptions_b54.ext Ex
      have F_detailMessage_b54 := F_detailMessage_b54.ext Ex
      have F_backtrace_b54 := F_backtrace_b54.ext Ex
      have F_depth_b54 := F_depth_b54.ext Ex
      have F_errorCode_b54 := F_errorCode_b54.ext Ex
      have E_b61 := A
      have F_coder_b61 : Fld Z h61 b61 "java/lang/String" "coder" "B" (.int (0 : Int32)) := D (Or.inr (hw _ (List.mem_of_getElem? (i := 40) rfl))) (ty := .byte) (by decide)
      have F_value_b61 : Fld Z h61 b61 "java/lang/String" "value" "[B" .null := D (Or.inr (hw _ (List.mem_of_getElem? (i := 42) rfl))) (ty := (.array .byte)) (by decide)
      have K := K.ext Ex
      have Zs := Nat.le_trans Zs Ex.1
      refine own_dup X hx hby at_64 rfl 65 rfl ?_
      refine own_aload X hx hby (.ref b40) at_65 rfl rfl 67 rfl ?_
      refine own_callC X hx hby hZ (st := [(.ref b61), (.ref u_INVALID_PARAMETER_VALUE), (.ref b54), (.ref b54)]) [(.ref b40)] rfl rfl hown (hw _ (List.mem_of_getElem? (i := 17) rfl)) (hw _ (List.mem_of_getElem? (i := 18) rfl)) (hw _ (List.mem_of_getElem? (i := 16) rfl)) (hw _ (List.mem_of_getElem? (i := 19) rfl)) (by decide) at_67 (rm2 l Z a0 hw b61 b40 (updI (fun _ => (0 : Int32)) 0 (nar .char ((p3 &&& (255 : Int32)).toUInt32.toUInt16.toUInt32.toInt32))) (0 : Int32) .null u_COMPACT_STRINGS h61 n0 Zs hcs (own_ch _) A_b40 E_b40 E_b61 F_coder_b61 F_value_b61 g_b61 (S_COMPACT_STRINGS.ext (own_ext0 K)) g_b40) eT pd_13 rfl (by rw [hml]; rfl) (by decide) 4 rfl (by decide) (by decide) (by decide) 70 rfl ?_
      intro T67 L9 v9 X hQ
      obtain ⟨h67, eT⟩ : ∃ z, T67.heap = z := ⟨_, rfl⟩
      rw [eT] at hQ
      have lt_b40 := A_b40.lt
      have lt_b54 := E_b54.lt
      have lt_b61 := E_b61.lt
      obtain ⟨b67b6b36b1, rfl, N9, Kc, hs_b67b6b36b1, E_b61, F_coder_b61, F_value_b61, A_b67b6b36b1, E_b67b6b36b1⟩ := hQ
      have g_b67b6b36b1 : n0 ≤ b67b6b36b1 := Nat.le_trans Zs hs_b67b6b36b1
      have sz_b67b6b36b1 : h0.size ≤ b67b6b36b1 := Nat.le_trans K.1 hs_b67b6b36b1
      have ne_b40_b67b6b36b1 : b40 ≠ b67b6b36b1 := Nat.ne_of_lt (Nat.lt_of_lt_of_le lt_b40 hs_b67b6b36b1)
      have ne_b54_b67b6b36b1 : b54 ≠ b67b6b36b1 := Nat.ne_of_lt (Nat.lt_of_lt_of_le lt_b54 hs_b67b6b36b1)
      have ne_b61_b67b6b36b1 : b61 ≠ b67b6b36b1 := Nat.ne_of_lt (Nat.lt_of_lt_of_le lt_b61 hs_b67b6b36b1)
      have hk := Nat.le_trans hk Kc.1
      have A_b40 := A_b40.keep Kc (ninS ne_b40_b61 nin0)
      have E_b40 := E_b40.keep Kc
      have U_b54 := Unt.keep Kc (ninS ne_b54_b61 nin0) U_b54
      have E_b54 := E_b54.keep Kc
      have F_cause_b54 := F_cause_b54.keep Kc (ninS ne_b54_b61 nin0)
      have F_stackTrace_b54 := F_stackTrace_b54.keep Kc (ninS ne_b54_b61 nin0)
      have F_suppressedExceptions_b54 := F_suppressedExceptions_b54.keep Kc (ninS ne_b54_b61 nin0)
      have F_detailMessage_b54 := F_detailMessage_b54.keep Kc (ninS ne_b54_b61 nin0)
      have F_backtrace_b54 := F_backtrace_b54.keep Kc (ninS ne_b54_b61 nin0)
      have F_depth_b54 := F_depth_b54.keep Kc (ninS ne_b54_b61 nin0)
      have F_errorCode_b54 := F_errorCode_b54.keep Kc (ninS ne_b54_b61 nin0)
      have K := K.trans Kc (allS (Or.inr sz_b61) all0)
      have Zs := Nat.le_trans Zs Kc.1
      have N := Fr.app N N9
      show Go p e below _ T67 (mkF m 70 #[.val (.int p1), .val (.int p2), .val (.int p3), .val (.int (0 : Int32)), .val (.int (0 : Int32)), .val .null, .val (.ref b40), .unset, .unset, .unset, .unset, .unset, .unset] [(.ref b61), (.ref u_INVALID_PARAMETER_VALUE), (.ref b54), (.ref b54)])
      refine own_callCK X hx hby hZ (st := [(.ref b54)]) [(.ref u_INVALID_PARAMETER_VALUE), (.ref b61)] rfl rfl hown hS hk hTK hBelow (hw _ (List.mem_of_getElem? (i := 43) rfl)) (hw _ (List.mem_of_getElem? (i := 44) rfl)) (hw _ (List.mem_of_getElem? (i := 10) rfl)) (hw _ (List.mem_of_getElem? (i := 45) rfl)) (by decide) at_70 (rm8 l Z a0 hw b54 u_INVALID_PARAMETER_VALUE b61 .null .null .null .null (0 : Int32) .null u_UNASSIGNED_STACK u_SUPPRESSED_SENTINEL h67 n0 Zs hst hU hV U_b54 E_b54 F_cause_b54 F_stackTrace_b54 F_suppressedExceptions_b54 F_detailMessage_b54 F_backtrace_b54 F_depth_b54 F_errorCode_b54 g_b54 (S_UNASSIGNED_STACK.ext (own_ext0 K)) (S_SUPPRESSED_SENTINEL.ext (own_ext0 K)) (E_u_INVALID_PARAMETER_VALUE.ext (own_ext0 K))) eT pd_7 rfl (by rw [hml]; rfl) (by decide) 1 rfl (by decide) (by decide) (by decide) 73 rfl ?_
      intro T70 L9 v9 vm70 X hS hZ hown hQ
      obtain ⟨h70, eT⟩ : ∃ z, T70.heap = z := ⟨_, rfl⟩
      rw [eT] at hQ
      obtain ⟨rfl, N9, Kc, E_b54⟩ := hQ
      have A_b40 := A_b40.keep Kc (ninS ne_b40_b54 nin0)
      have E_b40 := E_b40.keep Kc
      have E_b61 := E_b61.keep Kc
      have F_coder_b61 := F_coder_b61.keep Kc (ninS (Ne.symm ne_b54_b61) nin0)
      have F_value_b61 := F_value_b61.keep Kc (ninS (Ne.symm ne_b54_b61) nin0)
      have A_b67b6b36b1 := A_b67b6b36b1.keep Kc (ninS (Ne.symm ne_b54_b67b6b36b1) nin0)
      have E_b67b6b36b1 := E_b67b6b36b1.keep Kc
      have hk : T70.heap.size ≤ h70.size := by rw [eT]; exact Nat.le_refl _
      have K := K.trans Kc (allS (Or.inr sz_b54) all0)
      have Zs := Nat.le_trans Zs Kc.1
      have N := Fr.app N N9
      show Go p e below _ T70 (mkF m 73 #[.val (.int p1), .val (.int p2), .val (.int p3), .val (.int (0 : Int32)), .val (.int (0 : Int32)), .val .null, .val (.ref b40), .unset, .unset, .unset, .unset, .unset, .unset] [(.ref b54)])
      refine own_astore X hx hby at_73 rfl (l' := #[.val (.int p1), .val (.int p2), .val (.int p3), .val (.int (0 : Int32)), .val (.int (0 : Int32)), .val .null, .val (.ref b40), .val (.ref b54), .unset, .unset, .unset, .unset, .unset]) rfl 75 rfl ?_
      refine own_iload X hx hby (0 : Int32) at_75 rfl 77 rfl ?_
      have c77 : (0 : Int32) = (0 : Int32) := by decide
      refine own_if_eq X hx hby at_77 85 80 (by decide) rfl (fun _ => ?_) (fun q => absurd c77 q)
      refine own_aconstNull X hx hby at_85 86 rfl ?_
      refine own_astore X hx hby at_86 rfl (l' := #[.val (.int p1), .val (.int p2), .val (.int p3), .val (.int (0 : Int32)), .val (.int (0 : Int32)), .val .null, .val (.ref b40), .val (.ref b54), .val .null, .unset, .unset, .unset, .unset]) rfl 88 rfl ?_
      refine own_new X hx hby hZ hown (hw _ (List.mem_of_getElem? (i := 111) rfl)) (hw _ (List.mem_of_getElem? (i := 112) rfl)) (hw _ (List.mem_of_getElem? (i := 113) rfl)) eT at_88 (by decide) (by decide) 91 rfl ?_
      intro T88 h88 b88 gb88 X eT Ex A D
      have g_b88 : n0 ≤ b88 := by rw [gb88]; exact Zs
      have sz_b88 : h0.size ≤ b88 := by rw [gb88]; exact K.1
      have ne_b40_b88 : b40 ≠ b88 := Nat.ne_of_lt (by rw [gb88]; exact A_b40.lt)
      have ne_b67b6b36b1_b88 : b67b6b36b1 ≠ b88 := Nat.ne_of_lt (by rw [gb88]; exact A_b67b6b36b1.lt)
      have ne_b54_b88 : b54 ≠ b88 := Nat.ne_of_lt (by rw [gb88]; exact E_b54.lt)
      have ne_b61_b88 : b61 ≠ b88 := Nat.ne_of_lt (by rw [gb88]; exact E_b61.lt)
      have hk := Nat.le_trans hk Ex.1
      have A_b40 := A_b40.ext Ex
      have E_b40 := E_b40.ext Ex
      have E_b54 := E_b54.ext Ex
      have E_b61 := E_b61.ext Ex
      have F_coder_b61 := F_coder_b61.ext Ex
      have F_value_b61 := F_value_b61.ext Ex
      have A_b67b6b36b1 := A_b67b6b36b1.ext Ex
      have E_b67b6b36b1 := E_b67b6b36b1.ext Ex
      have E_b88 := A
      have F_value_b88 : Fld Z h88 b88 "com/example/inflight/inflight/Outcome" "value" "Ljava/lang/Object;" .null := D (Or.inr (hw _ (List.mem_of_getElem? (i := 124) rfl))) (ty := (.object "java/lang/Object")) (by decide)
      have F_failure_b88 : Fld Z h88 b88 "com/example/inflight/inflight/Outcome" "failure" "Lcom/example/inflight/inflight/ApiException;" .null := D (Or.inr (hw _ (List.mem_of_getElem? (i := 126) rfl))) (ty := (.object "com/example/inflight/inflight/ApiException")) (by decide)
      have K := K.ext Ex
      have Zs := Nat.le_trans Zs Ex.1
      refine own_dup X hx hby at_91 rfl 92 rfl ?_
      refine own_aload X hx hby .null at_92 rfl rfl 94 rfl ?_
      refine own_aload X hx hby .null at_94 rfl rfl 96 rfl ?_
      refine own_callC X hx hby hZ (st := [(.ref b88)]) [.null, .null] rfl rfl hown (hw _ (List.mem_of_getElem? (i := 114) rfl)) (hw _ (List.mem_of_getElem? (i := 115) rfl)) (hw _ (List.mem_of_getElem? (i := 113) rfl)) (hw _ (List.mem_of_getElem? (i := 116) rfl)) (by decide) at_96 (rm15_nn l Z a0 hw b88 .null .null h88 n0 Zs E_b88 F_value_b88 F_failure_b88 g_b88) eT pd_9 rfl (by rw [hml]; rfl) (by decide) 1 rfl (by decide) (by decide) (by decide) 99 rfl ?_
      intro T96 L9 v9 X hQ
      obtain ⟨h96, eT⟩ : ∃ z, T96.heap = z := ⟨_, rfl⟩
      rw [eT] at hQ
      obtain ⟨rfl, N9, Kc, E_b88, F_value_b88, F_failure_b88⟩ := hQ
      have hk := Nat.le_trans hk Kc.1
      have A_b40 := A_b40.keep Kc (ninS ne_b40_b88 nin0)
      have E_b40 := E_b40.keep Kc
      have E_b54 := E_b54.keep Kc
      have E_b61 := E_b61.keep Kc
      have F_coder_b61 := F_coder_b61.keep Kc (ninS ne_b61_b88 nin0)
      have F_value_b61 := F_value_b61.keep Kc (ninS ne_b61_b88 nin0)
      have A_b67b6b36b1 := A_b67b6b36b1.keep Kc (ninS ne_b67b6b36b1_b88 nin0)
      have E_b67b6b36b1 := E_b67b6b36b1.keep Kc
      have K := K.trans Kc (allS (Or.inr sz_b88) all0)
      have Zs := Nat.le_trans Zs Kc.1
      have N := Fr.app N N9
      show Go p e below _ T96 (mkF m 99 #[.val (.int p1), .val (.int p2), .val (.int p3), .val (.int (0 : Int32)), .val (.int (0 : Int32)), .val .null, .val (.ref b40), .val (.ref b54), .val .null, .unset, .unset, .unset, .unset] [(.ref b88)])
      refine own_astore X hx hby at_99 rfl (l' := #[.val (.int p1), .val (.int p2), .val (.int p3), .val (.int (0 : Int32)), .val (.int (0 : Int32)), .val .null, .val (.ref b40), .val (.ref b54), .val .null, .val (.ref b88), .unset, .unset, .unset]) rfl 101 rfl ?_
      refine own_aload X hx hby (.ref b88) at_101 rfl rfl 103 rfl ?_
      refine own_callV X hx hby hZ (st := []) [] rfl hown (hw _ (List.mem_of_getElem? (i := 127) rfl)) (hw _ (List.mem_of_getElem? (i := 128) rfl)) (hw _ (List.mem_of_getElem? (i := 130) rfl)) (hw _ (List.mem_of_getElem? (i := 129) rfl)) (hw _ (List.mem_of_getElem? (i := 113) rfl)) (hw _ (List.mem_of_getElem? (i := 131) rfl)) E_b88 (by decide) at_103 (rm17_n l Z a0 hw b88 h96 n0 Zs F_failure_b88) eT pd_2 rfl (by rw [hml]; rfl) (by decide) 0 rfl (by decide) (by decide) (by decide) 106 rfl ?_
      intro T103 L9 v9 X hQ
      obtain ⟨rfl, N9, eT⟩ := hQ
      have N := Fr.app N N9
      show Go p e below _ T103 (mkF m 106 #[.val (.int p1), .val (.int p2), .val (.int p3), .val (.int (0 : Int32)), .val (.int (0 : Int32)), .val .null, .val (.ref b40), .val (.ref b54), .val .null, .val (.ref b88), .unset, .unset, .unset] [(.int (0 : Int32))])
      refine own_iload X hx hby (0 : Int32) at_106 rfl 108 rfl ?_
      have c108 : (0 : Int32) = (0 : Int32) := by decide
      refine own_icmp_ne X hx hby at_108 115 111 (by decide) rfl (fun q => absurd c108 q) (fun _ => ?_)
      refine own_iconst X hx hby (1 : Int32) at_111 rfl 112 rfl ?_
      refine own_goto X hx hby at_112 116 (by decide) ?_
      refine own_istore X hx hby at_116 rfl (l' := #[.val (.int p1), .val (.int p2), .val (.int p3), .val (.int (0 : Int32)), .val (.int (0 : Int32)), .val .null, .val (.ref b40), .val (.ref b54), .val .null, .val (.ref b88), .val (.int (1 : Int32)), .unset, .unset]) rfl 118 rfl ?_
      refine own_aload X hx hby .null at_118 rfl rfl 120 rfl ?_
      refine own_callS X hx hby hZ (st := []) [.null] rfl hown (hw _ (List.mem_of_getElem? (i := 132) rfl)) (hw _ (List.mem_of_getElem? (i := 133) rfl)) (hw _ (List.mem_of_getElem? (i := 113) rfl)) (hw _ (List.mem_of_getElem? (i := 134) rfl)) (by decide) at_120 (rm18_n l Z a0 hw  h96 n0 Zs ) eT pd_8 rfl (by rw [hml]; rfl) (by decide) 0 rfl (by decide) (by decide) (by decide) 123 rfl ?_
      intro T120 L9 v9 X hQ
      obtain ⟨h120, eT⟩ : ∃ z, T120.heap = z := ⟨_, rfl⟩
      rw [eT] at hQ
      have lt_b40 := A_b40.lt
      have lt_b54 := E_b54.lt
      have lt_b61 := E_b61.lt
      have lt_b67b6b36b1 := A_b67b6b36b1.lt
      have lt_b88 := E_b88.lt
      obtain ⟨b120b0, rfl, N9, Kc, hs_b120b0, E_b120b0, F_value_b120b0, F_failure_b120b0⟩ := hQ
      have g_b120b0 : n0 ≤ b120b0 := Nat.le_trans Zs hs_b120b0
      have sz_b120b0 : h0.size ≤ b120b0 := Nat.le_trans K.1 hs_b120b0
      have ne_b40_b120b0 : b40 ≠ b120b0 := Nat.ne_of_lt (Nat.lt_of_lt_of_le lt_b40 hs_b120b0)
      have ne_b54_b120b0 : b54 ≠ b120b0 := Nat.ne_of_lt (Nat.lt_of_lt_of_le lt_b54 hs_b120b0)
      have ne_b61_b120b0 : b61 ≠ b120b0 := Nat.ne_of_lt (Nat.lt_of_lt_of_le lt_b61 hs_b120b0)
      have ne_b67b6b36b1_b120b0 : b67b6b36b1 ≠ b120b0 := Nat.ne_of_lt (Nat.lt_of_lt_of_le lt_b67b6b36b1 hs_b120b0)
      have ne_b88_b120b0 : b88 ≠ b120b0 := Nat.ne_of_lt (Nat.lt_of_lt_of_le lt_b88 hs_b120b0)
      have hk := Nat.le_trans hk Kc.1
      have A_b40 := A_b40.keep Kc nin0
      have E_b40 := E_b40.keep Kc
      have E_b54 := E_b54.keep Kc
      have E_b61 := E_b61.keep Kc
      have F_coder_b61 := F_coder_b61.keep Kc nin0
      have F_value_b61 := F_value_b61.keep Kc nin0
      have A_b67b6b36b1 := A_b67b6b36b1.keep Kc nin0
      have E_b67b6b36b1 := E_b67b6b36b1.keep Kc
      have E_b88 := E_b88.keep Kc
      have F_value_b88 := F_value_b88.keep Kc nin0
      have F_failure_b88 := F_failure_b88.keep Kc nin0
      have K := K.trans Kc all0
      have Zs := Nat.le_trans Zs Kc.1
      have N := Fr.app N N9
      show Go p e below _ T120 (mkF m 123 #[.val (.int p1), .val (.int p2), .val (.int p3), .val (.int (0 : Int32)), .val (.int (0 : Int32)), .val .null, .val (.ref b40), .val (.ref b54), .val .null, .val (.ref b88), .val (.int (1 : Int32)), .unset, .unset] [(.ref b120b0)])
      refine own_astore X hx hby at_123 rfl (l' := #[.val (.int p1), .val (.int p2), .val (.int p3), .val (.int (0 : Int32)), .val (.int (0 : Int32)), .val .null, .val (.ref b40), .val (.ref b54), .val .null, .val (.ref b88), .val (.int (1 : Int32)), .val (.ref b120b0), .unset]) rfl 125 rfl ?_
      refine own_iload X hx hby (1 : Int32) at_125 rfl 127 rfl ?_
      have c127 : ¬ (1 : Int32) = (0 : Int32) := by decide
      refine own_if_eq X hx hby at_127 142 130 (by decide) rfl (fun q => absurd q c127) (fun _ => ?_)
      refine own_aload X hx hby (.ref b120b0) at_130 rfl rfl 132 rfl ?_
      refine own_callV X hx hby hZ (st := []) [] rfl hown (hw _ (List.mem_of_getElem? (i := 127) rfl)) (hw _ (List.mem_of_getElem? (i := 128) rfl)) (hw _ (List.mem_of_getElem? (i := 130) rfl)) (hw _ (List.mem_of_getElem? (i := 129) rfl)) (hw _ (List.mem_of_getElem? (i := 113) rfl)) (hw _ (List.mem_of_getElem? (i := 131) rfl)) E_b120b0 (by decide) at_132 (rm17_n l Z a0 hw b120b0 h120 n0 Zs F_failure_b120b0) eT pd_2 rfl (by rw [hml]; rfl) (by decide) 0 rfl (by decide) (by decide) (by decide) 135 rfl ?_
      intro T132 L9 v9 X hQ
      obtain ⟨rfl, N9, eT⟩ := hQ
      have N := Fr.app N N9
      show Go p e below _ T132 (mkF m 135 #[.val (.int p1), .val (.int p2), .val (.int p3), .val (.int (0 : Int32)), .val (.int (0 : Int32)), .val .null, .val (.ref b40), .val (.ref b54), .val .null, .val (.ref b88), .val (.int (1 : Int32)), .val (.ref b120b0), .unset] [(.int (0 : Int32))])
      have c135 : (0 : Int32) = (0 : Int32) := by decide
      refine own_if_ne X hx hby at_135 142 138 (by decide) rfl (fun q => absurd c135 q) (fun _ => ?_)
      refine own_iconst X hx hby (1 : Int32) at_138 rfl 139 rfl ?_
      refine own_goto X hx hby at_139 143 (by decide) ?_
      refine own_istore X hx hby at_143 rfl (l' := #[.val (.int p1), .val (.int p2), .val (.int p3), .val (.int (0 : Int32)), .val (.int (0 : Int32)), .val .null, .val (.ref b40), .val (.ref b54), .val .null, .val (.ref b88), .val (.int (1 : Int32)), .val (.ref b120b0), .unset]) rfl 145 rfl ?_
      refine own_aload X hx hby (.ref b54) at_145 rfl rfl 147 rfl ?_
      refine own_callSW X hx hby hZ (st := []) [(.ref b54)] rfl hown hS hk (hw _ (List.mem_of_getElem? (i := 137) rfl)) (hw _ (List.mem_of_getElem? (i := 138) rfl)) (hw _ (List.mem_of_getElem? (i := 113) rfl)) (hw _ (List.mem_of_getElem? (i := 139) rfl)) (by decide) at_147 (rm19 l Z a0 hw b54 h120 n0 Zs E_b54) eT pd_6 rfl (by rw [hml]; rfl) (by decide) 0 rfl (by decide) (by decide) (by decide) 150 rfl ?_
      intro T147 L9 v9 vm147 X hS hZ hown hQ
      obtain ⟨h147, eT⟩ : ∃ z, T147.heap = z := ⟨_, rfl⟩
      rw [eT] at hQ
      have lt_b120b0 := E_b120b0.lt
      have lt_b40 := A_b40.lt
      have lt_b54 := E_b54.lt
      have lt_b61 := E_b61.lt
      have lt_b67b6b36b1 := A_b67b6b36b1.lt
      have lt_b88 := E_b88.lt
      obtain ⟨b147b0, rfl, N9, Kc, hs_b147b0, E_b147b0, F_value_b147b0, F_failure_b147b0⟩ := hQ
      have g_b147b0 : n0 ≤ b147b0 := Nat.le_trans Zs hs_b147b0
      have sz_b147b0 : h0.size ≤ b147b0 := Nat.le_trans K.1 hs_b147b0
      have ne_b120b0_b147b0 : b120b0 ≠ b147b0 := Nat.ne_of_lt (Nat.lt_of_lt_of_le lt_b120b0 hs_b147b0)
      have ne_b40_b147b0 : b40 ≠ b147b0 := Nat.ne_of_lt (Nat.lt_of_lt_of_le lt_b40 hs_b147b0)
      have ne_b54_b147b0 : b54 ≠ b147b0 := Nat.ne_of_lt (Nat.lt_of_lt_of_le lt_b54 hs_b147b0)
      have ne_b61_b147b0 : b61 ≠ b147b0 := Nat.ne_of_lt (Nat.lt_of_lt_of_le lt_b61 hs_b147b0)
      have ne_b67b6b36b1_b147b0 : b67b6b36b1 ≠ b147b0 := Nat.ne_of_lt (Nat.lt_of_lt_of_le lt_b67b6b36b1 hs_b147b0)
      have ne_b88_b147b0 : b88 ≠ b147b0 := Nat.ne_of_lt (Nat.lt_of_lt_of_le lt_b88 hs_b147b0)
      have A_b40 := A_b40.keep Kc nin0
      have E_b40 := E_b40.keep Kc
      have E_b54 := E_b54.keep Kc
      have E_b61 := E_b61.keep Kc
      have F_coder_b61 := F_coder_b61.keep Kc nin0
      have F_value_b61 := F_value_b61.keep Kc nin0
      have A_b67b6b36b1 := A_b67b6b36b1.keep Kc nin0
      have E_b67b6b36b1 := E_b67b6b36b1.keep Kc
      have E_b88 := E_b88.keep Kc
      have F_value_b88 := F_value_b88.keep Kc nin0
      have F_failure_b88 := F_failure_b88.keep Kc nin0
      have E_b120b0 := E_b120b0.keep Kc
      have F_value_b120b0 := F_value_b120b0.keep Kc nin0
      have F_failure_b120b0 := F_failure_b120b0.keep Kc nin0
      have hk : T147.heap.size ≤ h147.size := by rw [eT]; exact Nat.le_refl _
      have K := K.trans Kc all0
      have Zs := Nat.le_trans Zs Kc.1
      have N := Fr.app N N9
      show Go p e below _ T147 (mkF m 150 #[.val (.int p1), .val (.int p2), .val (.int p3), .val (.int (0 : Int32)), .val (.int (0 : Int32)), .val .null, .val (.ref b40), .val (.ref b54), .val .null, .val (.ref b88), .val (.int (1 : Int32)), .val (.ref b120b0), .unset] [(.ref b147b0)])
      refine own_astore X hx hby at_150 rfl (l' := #[.val (.int p1), .val (.int p2), .val (.int p3), .val (.int (0 : Int32)), .val (.int (0 : Int32)), .val .null, .val (.ref b40), .val (.ref b54), .val .null, .val (.ref b88), .val (.int (1 : Int32)), .val (.ref b120b0), .val (.ref b147b0)]) rfl 152 rfl ?_
      refine own_iload X hx hby (1 : Int32) at_152 rfl 154 rfl ?_
      have c154 : ¬ (1 : Int32) = (0 : Int32) := by decide
      refine own_if_eq X hx hby at_154 169 157 (by decide) rfl (fun q => absurd q c154) (fun _ => ?_)
      refine own_aload X hx hby (.ref b147b0) at_157 rfl rfl 159 rfl ?_
      refine own_callV X hx hby hZ (st := []) [] rfl hown (hw _ (List.mem_of_getElem? (i := 127) rfl)) (hw _ (List.mem_of_getElem? (i := 128) rfl)) (hw _ (List.mem_of_getElem? (i := 130) rfl)) (hw _ (List.mem_of_getElem? (i := 129) rfl)) (hw _ (List.mem_of_getElem? (i := 113) rfl)) (hw _ (List.mem_of_getElem? (i := 131) rfl)) E_b147b0 (by decide) at_159 (rm17_r l Z a0 hw b147b0 b54 h147 n0 Zs F_failure_b147b0) eT pd_2 rfl (by rw [hml]; rfl) (by decide) 0 rfl (by decide) (by decide) (by decide) 162 rfl ?_
      intro T159 L9 v9 X hQ
      obtain ⟨rfl, N9, eT⟩ := hQ
      have N := Fr.app N N9
      show Go p e below _ T159 (mkF m 162 #[.val (.int p1), .val (.int p2), .val (.int p3), .val (.int (0 : Int32)), .val (.int (0 : Int32)), .val .null, .val (.ref b40), .val (.ref b54), .val .null, .val (.ref b88), .val (.int (1 : Int32)), .val (.ref b120b0), .val (.ref b147b0)] [(.int (1 : Int32))])
      have c162 : ¬ (1 : Int32) = (0 : Int32) := by decide
      refine own_if_eq X hx hby at_162 169 165 (by decide) rfl (fun q => absurd q c162) (fun _ => ?_)
      refine own_iconst X hx hby (1 : Int32) at_165 rfl 166 rfl ?_
      refine own_goto X hx hby at_166 170 (by decide) ?_
      refine own_istore X hx hby at_170 rfl (l' := #[.val (.int p1), .val (.int p2), .val (.int p3), .val (.int (0 : Int32)), .val (.int (0 : Int32)), .val .null, .val (.ref b40), .val (.ref b54), .val .null, .val (.ref b88), .val (.int (1 : Int32)), .val (.ref b120b0), .val (.ref b147b0)]) rfl 172 rfl ?_
      refine own_iload X hx hby (1 : Int32) at_172 rfl 174 rfl ?_
      refine own_retNW X hx hby hS (by rw [eT]; exact hk) hret hlk (t := .boolean) (z' := (1 : Int32)) (by simp) at_174 (by decide) (by decide) rfl ?_
      rw [eT]
      exact ⟨rfl, N⟩
    · skip
      refine own_iconst X hx hby (1 : Int32) at_18 rfl 19 rfl ?_
      refine own_goto X hx hby at_19 23 (by decide) ?_
      refine own_istore X hx hby at_23 rfl (l' := #[.val (.int p1), .val (.int p2), .val (.int p3), .val (.int (0 : Int32)), .val (.int (1 : Int32)), .unset, .unset, .unset, .unset, .unset, .unset, .unset, .unset]) rfl 25 rfl ?_
      refine own_iloadN X hx hby (0 : Int32) at_25 rfl 26 rfl ?_
      have c26 : (0 : Int32) = (0 : Int32) := by decide
      refine own_if_eq X hx hby at_26 36 29 (by decide) rfl (fun _ => ?_) (fun q => absurd c26 q)
      refine own_aconstNull X hx hby at_36 37 rfl ?_
      refine own_astore X hx hby at_37 rfl (l' := #[.val (.int p1), .val (.int p2), .val (.int p3), .val (.int (0 : Int32)), .val (.int (1 : Int32)), .val .null, .unset, .unset, .unset, .unset, .unset, .unset, .unset]) rfl 39 rfl ?_
      refine own_iconst X hx hby (1 : Int32) at_39 rfl 40 rfl ?_
      refine own_newarray X hx hby hZ (hw _ (List.mem_of_getElem? (i := 7) rfl)) eT at_40 (z := (1 : Int32)) (by decide) (n := 1) rfl (cap := 1) (by decide) (by decide) (by decide) (by decide) (ad := "[C") rfl 42 rfl ?_
      intro T40 h40 b40 gb40 X eT Ex A A2
      have g_b40 : n0 ≤ b40 := by rw [gb40]; exact Zs
      have sz_b40 : h0.size ≤ b40 := by rw [gb40]; exact K.1
      have hk := Nat.le_trans hk Ex.1
      have A_b40 : Afi Z h40 b40 .char 1 (fun _ => (0 : Int32)) := A
      have E_b40 := A2
      have K := K.ext Ex
      have Zs := Nat.le_trans Zs Ex.1
      refine own_astore X hx hby at_42 rfl (l' := #[.val (.int p1), .val (.int p2), .val (.int p3), .val (.int (0 : Int32)), .val (.int (1 : Int32)), .val .null, .val (.ref b40), .unset, .unset, .unset, .unset, .unset, .unset]) rfl 44 rfl ?_
      refine own_aload X hx hby (.ref b40) at_44 rfl rfl 46 rfl ?_
      refine own_iconst X hx hby (0 : Int32) at_46 rfl 47 rfl ?_
      refine own_iloadN X hx hby p3 at_47 rfl 48 rfl ?_
      refine own_sipush X hx hby (255 : Int32) at_48 rfl 51 rfl ?_
      refine own_iand X hx hby at_51 52 rfl ?_
      refine own_i2c X hx hby at_52 53 rfl ?_
      refine own_castore X hx hby hZ eT A_b40 (by decide) at_53 54 rfl ?_
      intro T53 h53 X eT W A
      have hk := Nat.le_trans hk (Keep.of_wr W).1
      have E_b40 := E_b40.wr W
      have A_b40 : Afi Z h53 b40 .char 1 (updI (fun _ => (0 : Int32)) 0 (nar .char ((p3 &&& (255 : Int32)).toUInt32.toUInt16.toUInt32.toInt32))) := A
      have N := Fr.snoc X N g_b40
      have K := K.wr W (Or.inr sz_b40)
      have Zs := Nat.le_trans Zs (Keep.of_wr W).1
      refine own_newU X hx hby hZ hown (hw _ (List.mem_of_getElem? (i := 8) rfl)) (hw _ (List.mem_of_getElem? (i := 9) rfl)) (hw _ (List.mem_of_getElem? (i := 10) rfl)) eT at_54 (by decide) (by decide) 57 rfl ?_
      intro T54 h54 b54 gb54 X eT Ex A D Un
      have g_b54 : n0 ≤ b54 := by rw [gb54]; exact Zs
      have sz_b54 : h0.size ≤ b54 := by rw [gb54]; exact K.1
      have ne_b40_b54 : b40 ≠ b54 := Nat.ne_of_lt (by rw [gb54]; exact A_b40.lt)
      have hk := Nat.le_trans hk Ex.1
      have A_b40 := A_b40.ext Ex
      have E_b40 := E_b40.ext Ex
      have U_b54 := Un
      have E_b54 := A
      have F_cause_b54 : Fld Z h54 b54 "java/lang/Throwable" "cause" "Ljava/lang/Throwable;" .null := D (Or.inl (hw _ (List.mem_of_getElem? (i := 65) rfl))) (ty := (.object "java/lang/Throwable")) (by decide)
      have F_stackTrace_b54 : Fld Z h54 b54 "java/lang/Throwable" "stackTrace" "[Ljava/lang/StackTraceElement;" .null := D (Or.inl (hw _ (List.mem_of_getElem? (i := 68) rfl))) (ty := (.array (.object "java/lang/StackTraceElement"))) (by decide)
      have F_suppressedExceptions_b54 : Fld Z h54 b54 "java/lang/Throwable" "suppressedExceptions" "Ljava/util/List;" .null := D (Or.inl (hw _ (List.mem_of_getElem? (i := 71) rfl))) (ty := (.object "java/util/List")) (by decide)
      have F_detailMessage_b54 : Fld Z h54 b54 "java/lang/Throwable" "detailMessage" "Ljava/lang/String;" .null := D (Or.inl (hw _ (List.mem_of_getElem? (i := 95) rfl))) (ty := (.object "java/lang/String")) (by decide)
      have F_backtrace_b54 : Fld Z h54 b54 "java/lang/Throwable" "backtrace" "Ljava/lang/Object;" .null := D (Or.inl (hw _ (List.mem_of_getElem? (i := 96) rfl))) (ty := (.object "java/lang/Object")) (by decide)
      have F_depth_b54 : Fld Z h54 b54 "java/lang/Throwable" "depth" "I" (.int (0 : Int32)) := D (Or.inl (hw _ (List.mem_of_getElem? (i := 97) rfl))) (ty := .int) (by decide)
      have F_errorCode_b54 : Fld Z h54 b54 "com/example/inflight/inflight/ApiException" "errorCode" "Lcom/example/inflight/inflight/ErrorCode;" .null := D (Or.inr (hw _ (List.mem_of_getElem? (i := 110) rfl))) (ty := (.object "com/example/inflight/inflight/ErrorCode")) (by decide)
      have K := K.ext Ex
      have Zs := Nat.le_trans Zs Ex.1
      refine own_dup X hx hby at_57 rfl 58 rfl ?_
      refine own_getS X hx hby hZ hown (host := "") (Or.inl (hw _ (List.mem_of_getElem? (i := 11) rfl))) Via.refl eT (S_INVALID_PARAMETER_VALUE.ext (own_ext0 K)) at_58 61 rfl ?_
      intro T58 X eT
      refine own_new X hx hby hZ hown (hw _ (List.mem_of_getElem? (i := 14) rfl)) (hw _ (List.mem_of_getElem? (i := 15) rfl)) (hw _ (List.mem_of_getElem? (i := 16) rfl)) eT at_61 (by decide) (by decide) 64 rfl ?_
      intro T61 h61 b61 gb61 X eT Ex A D
      have g_b61 : n0 ≤ b61 := by rw [gb61]; exact Zs
      have sz_b61 : h0.size ≤ b61 := by rw [gb61]; exact K.1
      have ne_b40_b61 : b40 ≠ b61 := Nat.ne_of_lt (by rw [gb61]; exact A_b40.lt)
      have ne_b54_b61 : b54 ≠ b61 := Nat.ne_of_lt (by rw [gb61]; exact E_b54.lt)
      have hk := Nat.le_trans hk Ex.1
      have A_b40 := A_b40.ext Ex
      have E_b40 := E_b40.ext Ex
      have U_b54 := Unt.ext Ex U_b54
      have E_b54 := E_b54.ext Ex
      have F_cause_b54 := F_cause_b54.ext Ex
      have F_stackTrace_b54 := F_stackTrace_b54.ext Ex
      have F_suppressedExceptions_b54 := F_suppressedExceptions_b54.ext Ex
      have F_detailMessage_b54 := F_detailMessage_b54.ext Ex
      have F_backtrace_b54 := F_backtrace_b54.ext Ex
      have F_depth_b54 := F_depth_b54.ext Ex
      have F_errorCode_b54 := F_errorCode_b54.ext Ex
      have E_b61 := A
      have F_coder_b61 : Fld Z h61 b61 "java/lang/String" "coder" "B" (.int (0 : Int32)) := D (Or.inr (hw _ (List.mem_of_getElem? (i := 40) rfl))) (ty := .byte) (by decide)
      have F_value_b61 : Fld Z h61 b61 "java/lang/String" "value" "[B" .null := D (Or.inr (hw _ (List.mem_of_getElem? (i := 42) rfl))) (ty := (.array .byte)) (by decide)
      have K := K.ext Ex
      have Zs := Nat.le_trans Zs Ex.1
      refine own_dup X hx hby at_64 rfl 65 rfl ?_
      refine own_aload X hx hby (.ref b40) at_65 rfl rfl 67 rfl ?_
      refine own_callC X hx hby hZ (st := [(.ref b61), (.ref u_INVALID_PARAMETER_VALUE), (.ref b54), (.ref b54)]) [(.ref b40)] rfl rfl hown (hw _ (List.mem_of_getElem? (i := 17) rfl)) (hw _ (List.mem_of_getElem? (i := 18) rfl)) (hw _ (List.mem_of_getElem? (i := 16) rfl)) (hw _ (List.mem_of_getElem? (i := 19) rfl)) (by decide) at_67 (rm2 l Z a0 hw b61 b40 (updI (fun _ => (0 : Int32)) 0 (nar .char ((p3 &&& (255 : Int32)).toUInt32.toUInt16.toUInt32.toInt32))) (0 : Int32) .null u_COMPACT_STRINGS h61 n0 Zs hcs (own_ch _) A_b40 E_b40 E_b61 F_coder_b61 F_value_b61 g_b61 (S_COMPACT_STRINGS.ext (own_ext0 K)) g_b40) eT pd_13 rfl (by rw [hml]; rfl) (by decide) 4 rfl (by decide) (by decide) (by decide) 70 rfl ?_
      intro T67 L9 v9 X hQ
      obtain ⟨h67, eT⟩ : ∃ z, T67.heap = z := ⟨_, rfl⟩
      rw [eT] at hQ
      have lt_b40 := A_b40.lt
      have lt_b54 := E_b54.lt
      have lt_b61 := E_b61.lt
      obtain ⟨b67b6b36b1, rfl, N9, Kc, hs_b67b6b36b1, E_b61, F_coder_b61, F_value_b61, A_b67b6b36b1, E_b67b6b36b1⟩ := hQ
      have g_b67b6b36b1 : n0 ≤ b67b6b36b1 := Nat.le_trans Zs hs_b67b6b36b1
      have sz_b67b6b36b1 : h0.size ≤ b67b6b36b1 := Nat.le_trans K.1 hs_b67b6b36b1
      have ne_b40_b67b6b36b1 : b40 ≠ b67b6b36b1 := Nat.ne_of_lt (Nat.lt_of_lt_of_le lt_b40 hs_b67b6b36b1)
      have ne_b54_b67b6b36b1 : b54 ≠ b67b6b36b1 := Nat.ne_of_lt (Nat.lt_of_lt_of_le lt_b54 hs_b67b6b36b1)
      have ne_b61_b67b6b36b1 : b61 ≠ b67b6b36b1 := Nat.ne_of_lt (Nat.lt_of_lt_of_le lt_b61 hs_b67b6b36b1)
      have hk := Nat.le_trans hk Kc.1
      have A_b40 := A_b40.keep Kc (ninS ne_b40_b61 nin0)
      have E_b40 := E_b40.keep Kc
      have U_b54 := Unt.keep Kc (ninS ne_b54_b61 nin0) U_b54
      have E_b54 := E_b54.keep Kc
      have F_cause_b54 := F_cause_b54.keep Kc (ninS ne_b54_b61 nin0)
      have F_stackTrace_b54 := F_stackTrace_b54.keep Kc (ninS ne_b54_b61 nin0)
      have F_suppressedExceptions_b54 := F_suppressedExceptions_b54.keep Kc (ninS ne_b54_b61 nin0)
      have F_detailMessage_b54 := F_detailMessage_b54.keep Kc (ninS ne_b54_b61 nin0)
      have F_backtrace_b54 := F_backtrace_b54.keep Kc (ninS ne_b54_b61 nin0)
      have F_depth_b54 := F_depth_b54.keep Kc (ninS ne_b54_b61 nin0)
      have F_errorCode_b54 := F_errorCode_b54.keep Kc (ninS ne_b54_b61 nin0)
      have K := K.trans Kc (allS (Or.inr sz_b61) all0)
      have Zs := Nat.le_trans Zs Kc.1
      have N := Fr.app N N9
      show Go p e below _ T67 (mkF m 70 #[.val (.int p1), .val (.int p2), .val (.int p3), .val (.int (0 : Int32)), .val (.int (1 : Int32)), .val .null, .val (.ref b40), .unset, .unset, .unset, .unset, .unset, .unset] [(.ref b61), (.ref u_INVALID_PARAMETER_VALUE), (.ref b54), (.ref b54)])
      refine own_callCK X hx hby hZ (st := [(.ref b54)]) [(.ref u_INVALID_PARAMETER_VALUE), (.ref b61)] rfl rfl hown hS hk hTK hBelow (hw _ (List.mem_of_getElem? (i := 43) rfl)) (hw _ (List.mem_of_getElem? (i := 44) rfl)) (hw _ (List.mem_of_getElem? (i := 10) rfl)) (hw _ (List.mem_of_getElem? (i := 45) rfl)) (by decide) at_70 (rm8 l Z a0 hw b54 u_INVALID_PARAMETER_VALUE b61 .null .null .null .null (0 : Int32) .null u_UNASSIGNED_STACK u_SUPPRESSED_SENTINEL h67 n0 Zs hst hU hV U_b54 E_b54 F_cause_b54 F_stackTrace_b54 F_suppressedExceptions_b54 F_detailMessage_b54 F_backtrace_b54 F_depth_b54 F_errorCode_b54 g_b54 (S_UNASSIGNED_STACK.ext (own_ext0 K)) (S_SUPPRESSED_SENTINEL.ext (own_ext0 K)) (E_u_INVALID_PARAMETER_VALUE.ext (own_ext0 K))) eT pd_7 rfl (by rw [hml]; rfl) (by decide) 1 rfl (by decide) (by decide) (by decide) 73 rfl ?_
      intro T70 L9 v9 vm70 X hS hZ hown hQ
      obtain ⟨h70, eT⟩ : ∃ z, T70.heap = z := ⟨_, rfl⟩
      rw [eT] at hQ
      obtain ⟨rfl, N9, Kc, E_b54⟩ := hQ
      have A_b40 := A_b40.keep Kc (ninS ne_b40_b54 nin0)
      have E_b40 := E_b40.keep Kc
      have E_b61 := E_b61.keep Kc
      have F_coder_b61 := F_coder_b61.keep Kc (ninS (Ne.symm ne_b54_b61) nin0)
      have F_value_b61 := F_value_b61.keep Kc (ninS (Ne.symm ne_b54_b61) nin0)
      have A_b67b6b36b1 := A_b67b6b36b1.keep Kc (ninS (Ne.symm ne_b54_b67b6b36b1) nin0)
      have E_b67b6b36b1 := E_b67b6b36b1.keep Kc
      have hk : T70.heap.size ≤ h70.size := by rw [eT]; exact Nat.le_refl _
      have K := K.trans Kc (allS (Or.inr sz_b54) all0)
      have Zs := Nat.le_trans Zs Kc.1
      have N := Fr.app N N9
      show Go p e below _ T70 (mkF m 73 #[.val (.int p1), .val (.int p2), .val (.int p3), .val (.int (0 : Int32)), .val (.int (1 : Int32)), .val .null, .val (.ref b40), .unset, .unset, .unset, .unset, .unset, .unset] [(.ref b54)])
      refine own_astore X hx hby at_73 rfl (l' := #[.val (.int p1), .val (.int p2), .val (.int p3), .val (.int (0 : Int32)), .val (.int (1 : Int32)), .val .null, .val (.ref b40), .val (.ref b54), .unset, .unset, .unset, .unset, .unset]) rfl 75 rfl ?_
      refine own_iload X hx hby (1 : Int32) at_75 rfl 77 rfl ?_
      have c77 : ¬ (1 : Int32) = (0 : Int32) := by decide
      refine own_if_eq X hx hby at_77 85 80 (by decide) rfl (fun q => absurd q c77) (fun _ => ?_)
      refine own_aload X hx hby (.ref b54) at_80 rfl rfl 82 rfl ?_
      refine own_goto X hx hby at_82 86 (by decide) ?_
      refine own_astore X hx hby at_86 rfl (l' := #[.val (.int p1), .val (.int p2), .val (.int p3), .val (.int (0 : Int32)), .val (.int (1 : Int32)), .val .null, .val (.ref b40), .val (.ref b54), .val (.ref b54), .unset, .unset, .unset, .unset]) rfl 88 rfl ?_
      refine own_new X hx hby hZ hown (hw _ (List.mem_of_getElem? (i := 111) rfl)) (hw _ (List.mem_of_getElem? (i := 112) rfl)) (hw _ (List.mem_of_getElem? (i := 113) rfl)) eT at_88 (by decide) (by decide) 91 rfl ?_
      intro T88 h88 b88 gb88 X eT Ex A D
      have g_b88 : n0 ≤ b88 := by rw [gb88]; exact Zs
      have sz_b88 : h0.size ≤ b88 := by rw [gb88]; exact K.1
      have ne_b40_b88 : b40 ≠ b88 := Nat.ne_of_lt (by rw [gb88]; exact A_b40.lt)
      have ne_b67b6b36b1_b88 : b67b6b36b1 ≠ b88 := Nat.ne_of_lt (by rw [gb88]; exact A_b67b6b36b1.lt)
      have ne_b54_b88 : b54 ≠ b88 := Nat.ne_of_lt (by rw [gb88]; exact E_b54.lt)
      have ne_b61_b88 : b61 ≠ b88 := Nat.ne_of_lt (by rw [gb88]; exact E_b61.lt)
      have hk := Nat.le_trans hk Ex.1
      have A_b40 := A_b40.ext Ex
      have E_b40 := E_b40.ext Ex
      have E_b54 := E_b54.ext Ex
      have E_b61 := E_b61.ext Ex
      have F_coder_b61 := F_coder_b61.ext Ex
      have F_value_b61 := F_value_b61.ext Ex
      have A_b67b6b36b1 := A_b67b6b36b1.ext Ex
      have E_b67b6b36b1 := E_b67b6b36b1.ext Ex
      have E_b88 := A
      have F_value_b88 : Fld Z h88 b88 "com/example/inflight/inflight/Outcome" "value" "Ljava/lang/Object;" .null := D (Or.inr (hw _ (List.mem_of_getElem? (i := 124) rfl))) (ty := (.object "java/lang/Object")) (by decide)
      have F_failure_b88 : Fld Z h88 b88 "com/example/inflight/inflight/Outcome" "failure" "Lcom/example/inflight/inflight/ApiException;" .null := D (Or.inr (hw _ (List.mem_of_getElem? (i := 126) rfl))) (ty := (.object "com/example/inflight/inflight/ApiException")) (by decide)
      have K := K.ext Ex
      have Zs := Nat.le_trans Zs Ex.1
      refine own_dup X hx hby at_91 rfl 92 rfl ?_
      refine own_aload X hx hby .null at_92 rfl rfl 94 rfl ?_
      refine own_aload X hx hby (.ref b54) at_94 rfl rfl 96 rfl ?_
      refine own_callC X hx hby hZ (st := [(.ref b88)]) [.null, (.ref b54)] rfl rfl hown (hw _ (List.mem_of_getElem? (i := 114) rfl)) (hw _ (List.mem_of_getElem? (i := 115) rfl)) (hw _ (List.mem_of_getElem? (i := 113) rfl)) (hw _ (List.mem_of_getElem? (i := 116) rfl)) (by decide) at_96 (rm15_nr l Z a0 hw b88 b54 .null .null h88 n0 Zs E_b88 F_value_b88 F_failure_b88 g_b88) eT pd_9 rfl (by rw [hml]; rfl) (by decide) 1 rfl (by decide) (by decide) (by decide) 99 rfl ?_
      intro T96 L9 v9 X hQ
      obtain ⟨h96, eT⟩ : ∃ z, T96.heap = z := ⟨_, rfl⟩
      rw [eT] at hQ
      obtain ⟨rfl, N9, Kc, E_b88, F_value_b88, F_failure_b88⟩ := hQ
      have hk := Nat.le_trans hk Kc.1
      have A_b40 := A_b40.keep Kc (ninS ne_b40_b88 nin0)
      have E_b40 := E_b40.keep Kc
      have E_b54 := E_b54.keep Kc
      have E_b61 := E_b61.keep Kc
      have F_coder_b61 := F_coder_b61.keep Kc (ninS ne_b61_b88 nin0)
      have F_value_b61 := F_value_b61.keep Kc (ninS ne_b61_b88 nin0)
      have A_b67b6b36b1 := A_b67b6b36b1.keep Kc (ninS ne_b67b6b36b1_b88 nin0)
      have E_b67b6b36b1 := E_b67b6b36b1.keep Kc
      have K := K.trans Kc (allS (Or.inr sz_b88) all0)
      have Zs := Nat.le_trans Zs Kc.1
      have N := Fr.app N N9
      show Go p e below _ T96 (mkF m 99 #[.val (.int p1), .val (.int p2), .val (.int p3), .val (.int (0 : Int32)), .val (.int (1 : Int32)), .val .null, .val (.ref b40), .val (.ref b54), .val (.ref b54), .unset, .unset, .unset, .unset] [(.ref b88)])
      refine own_astore X hx hby at_99 rfl (l' := #[.val (.int p1), .val (.int p2), .val (.int p3), .val (.int (0 : Int32)), .val (.int (1 : Int32)), .val .null, .val (.ref b40), .val (.ref b54), .val (.ref b54), .val (.ref b88), .unset, .unset, .unset]) rfl 101 rfl ?_
      refine own_aload X hx hby (.ref b88) at_101 rfl rfl 103 rfl ?_
      refine own_callV X hx hby hZ (st := []) [] rfl hown (hw _ (List.mem_of_getElem? (i := 127) rfl)) (hw _ (List.mem_of_getElem? (i := 128) rfl)) (hw _ (List.mem_of_getElem? (i := 130) rfl)) (hw _ (List.mem_of_getElem? (i := 129) rfl)) (hw _ (List.mem_of_getElem? (i := 113) rfl)) (hw _ (List.mem_of_getElem? (i := 131) rfl)) E_b88 (by decide) at_103 (rm17_r l Z a0 hw b88 b54 h96 n0 Zs F_failure_b88) eT pd_2 rfl (by rw [hml]; rfl) (by decide) 0 rfl (by decide) (by decide) (by decide) 106 rfl ?_
      intro T103 L9 v9 X hQ
      obtain ⟨rfl, N9, eT⟩ := hQ
      have N := Fr.app N N9
      show Go p e below _ T103 (mkF m 106 #[.val (.int p1), .val (.int p2), .val (.int p3), .val (.int (0 : Int32)), .val (.int (1 : Int32)), .val .null, .val (.ref b40), .val (.ref b54), .val (.ref b54), .val (.ref b88), .unset, .unset, .unset] [(.int (1 : Int32))])
      refine own_iload X hx hby (1 : Int32) at_106 rfl 108 rfl ?_
      have c108 : (1 : Int32) = (1 : Int32) := by decide
      refine own_icmp_ne X hx hby at_108 115 111 (by decide) rfl (fun q => absurd c108 q) (fun _ => ?_)
      refine own_iconst X hx hby (1 : Int32) at_111 rfl 112 rfl ?_
      refine own_goto X hx hby at_112 116 (by decide) ?_
      refine own_istore X hx hby at_116 rfl (l' := #[.val (.int p1), .val (.int p2), .val (.int p3), .val (.int (0 : Int32)), .val (.int (1 : Int32)), .val .null, .val (.ref b40), .val (.ref b54), .val (.ref b54), .val (.ref b88), .val (.int (1 : Int32)), .unset, .unset]) rfl 118 rfl ?_
      refine own_aload X hx hby .null at_118 rfl rfl 120 rfl ?_
      refine own_callS X hx hby hZ (st := []) [.null] rfl hown (hw _ (List.mem_of_getElem? (i := 132) rfl)) (hw _ (List.mem_of_getElem? (i := 133) rfl)) (hw _ (List.mem_of_getElem? (i := 113) rfl)) (hw _ (List.mem_of_getElem? (i := 134) rfl)) (by decide) at_120 (rm18_n l Z a0 hw  h96 n0 Zs ) eT pd_8 rfl (by rw [hml]; rfl) (by decide) 0 rfl (by decide) (by decide) (by decide) 123 rfl ?_
      intro T120 L9 v9 X hQ
      obtain ⟨h120, eT⟩ : ∃ z, T120.heap = z := ⟨_, rfl⟩
      rw [eT] at hQ
      have lt_b40 := A_b40.lt
      have lt_b54 := E_b54.lt
      have lt_b61 := E_b61.lt
      have lt_b67b6b36b1 := A_b67b6b36b1.lt
      have lt_b88 := E_b88.lt
      obtain ⟨b120b0, rfl, N9, Kc, hs_b120b0, E_b120b0, F_value_b120b0, F_failure_b120b0⟩ := hQ
      have g_b120b0 : n0 ≤ b120b0 := Nat.le_trans Zs hs_b120b0
      have sz_b120b0 : h0.size ≤ b120b0 := Nat.le_trans K.1 hs_b120b0
      have ne_b40_b120b0 : b40 ≠ b120b0 := Nat.ne_of_lt (Nat.lt_of_lt_of_le lt_b40 hs_b120b0)
      have ne_b54_b120b0 : b54 ≠ b120b0 := Nat.ne_of_lt (Nat.lt_of_lt_of_le lt_b54 hs_b120b0)
      have ne_b61_b120b0 : b61 ≠ b120b0 := Nat.ne_of_lt (Nat.lt_of_lt_of_le lt_b61 hs_b120b0)
      have ne_b67b6b36b1_b120b0 : b67b6b36b1 ≠ b120b0 := Nat.ne_of_lt (Nat.lt_of_lt_of_le lt_b67b6b36b1 hs_b120b0)
      have ne_b88_b120b0 : b88 ≠ b120b0 := Nat.ne_of_lt (Nat.lt_of_lt_of_le lt_b88 hs_b120b0)
      have hk := Nat.le_trans hk Kc.1
      have A_b40 := A_b40.keep Kc nin0
      have E_b40 := E_b40.keep Kc
      have E_b54 := E_b54.keep Kc
      have E_b61 := E_b61.keep Kc
      have F_coder_b61 := F_coder_b61.keep Kc nin0
      have F_value_b61 := F_value_b61.keep Kc nin0
      have A_b67b6b36b1 := A_b67b6b36b1.keep Kc nin0
      have E_b67b6b36b1 := E_b67b6b36b1.keep Kc
      have E_b88 := E_b88.keep Kc
      have F_value_b88 := F_value_b88.keep Kc nin0
      have F_failure_b88 := F_failure_b88.keep Kc nin0
      have K := K.trans Kc all0
      have Zs := Nat.le_trans Zs Kc.1
      have N := Fr.app N N9
      show Go p e below _ T120 (mkF m 123 #[.val (.int p1), .val (.int p2), .val (.int p3), .val (.int (0 : Int32)), .val (.int (1 : Int32)), .val .null, .val (.ref b40), .val (.ref b54), .val (.ref b54), .val (.ref b88), .val (.int (1 : Int32)), .unset, .unset] [(.ref b120b0)])
      refine own_astore X hx hby at_123 rfl (l' := #[.val (.int p1), .val (.int p2), .val (.int p3), .val (.int (0 : Int32)), .val (.int (1 : Int32)), .val .null, .val (.ref b40), .val (.ref b54), .val (.ref b54), .val (.ref b88), .val (.int (1 : Int32)), .val (.ref b120b0), .unset]) rfl 125 rfl ?_
      refine own_iload X hx hby (1 : Int32) at_125 rfl 127 rfl ?_
      have c127 : ¬ (1 : Int32) = (0 : Int32) := by decide
      refine own_if_eq X hx hby at_127 142 130 (by decide) rfl (fun q => absurd q c127) (fun _ => ?_)
      refine own_aload X hx hby (.ref b120b0) at_130 rfl rfl 132 rfl ?_
      refine own_callV X hx hby hZ (st := []) [] rfl hown (hw _ (List.mem_of_getElem? (i := 127) rfl)) (hw _ (List.mem_of_getElem? (i := 128) rfl)) (hw _ (List.mem_of_getElem? (i := 130) rfl)) (hw _ (List.mem_of_getElem? (i := 129) rfl)) (hw _ (List.mem_of_getElem? (i := 113) rfl)) (hw _ (List.mem_of_getElem? (i := 131) rfl)) E_b120b0 (by decide) at_132 (rm17_n l Z a0 hw b120b0 h120 n0 Zs F_failure_b120b0) eT pd_2 rfl (by rw [hml]; rfl) (by decide) 0 rfl (by decide) (by decide) (by decide) 135 rfl ?_
      intro T132 L9 v9 X hQ
      obtain ⟨rfl, N9, eT⟩ := hQ
      have N := Fr.app N N9
      show Go p e below _ T132 (mkF m 135 #[.val (.int p1), .val (.int p2), .val (.int p3), .val (.int (0 : Int32)), .val (.int (1 : Int32)), .val .null, .val (.ref b40), .val (.ref b54), .val (.ref b54), .val (.ref b88), .val (.int (1 : Int32)), .val (.ref b120b0), .unset] [(.int (0 : Int32))])
      have c135 : (0 : Int32) = (0 : Int32) := by decide
      refine own_if_ne X hx hby at_135 142 138 (by decide) rfl (fun q => absurd c135 q) (fun _ => ?_)
      refine own_iconst X hx hby (1 : Int32) at_138 rfl 139 rfl ?_
      refine own_goto X hx hby at_139 143 (by decide) ?_
      refine own_istore X hx hby at_143 rfl (l' := #[.val (.int p1), .val (.int p2), .val (.int p3), .val (.int (0 : Int32)), .val (.int (1 : Int32)), .val .null, .val (.ref b40), .val (.ref b54), .val (.ref b54), .val (.ref b88), .val (.int (1 : Int32)), .val (.ref b120b0), .unset]) rfl 145 rfl ?_
      refine own_aload X hx hby (.ref b54) at_145 rfl rfl 147 rfl ?_
      refine own_callSW X hx hby hZ (st := []) [(.ref b54)] rfl hown hS hk (hw _ (List.mem_of_getElem? (i := 137) rfl)) (hw _ (List.mem_of_getElem? (i := 138) rfl)) (hw _ (List.mem_of_getElem? (i := 113) rfl)) (hw _ (List.mem_of_getElem? (i := 139) rfl)) (by decide) at_147 (rm19 l Z a0 hw b54 h120 n0 Zs E_b54) eT pd_6 rfl (by rw [hml]; rfl) (by decide) 0 rfl (by decide) (by decide) (by decide) 150 rfl ?_
      intro T147 L9 v9 vm147 X hS hZ hown hQ
      obtain ⟨h147, eT⟩ : ∃ z, T147.heap = z := ⟨_, rfl⟩
      rw [eT] at hQ
      have lt_b120b0 := E_b120b0.lt
      have lt_b40 := A_b40.lt
      have lt_b54 := E_b54.lt
      have lt_b61 := E_b61.lt
      have lt_b67b6b36b1 := A_b67b6b36b1.lt
      have lt_b88 := E_b88.lt
      obtain ⟨b147b0, rfl, N9, Kc, hs_b147b0, E_b147b0, F_value_b147b0, F_failure_b147b0⟩ := hQ
      have g_b147b0 : n0 ≤ b147b0 := Nat.le_trans Zs hs_b147b0
      have sz_b147b0 : h0.size ≤ b147b0 := Nat.le_trans K.1 hs_b147b0
      have ne_b120b0_b147b0 : b120b0 ≠ b147b0 := Nat.ne_of_lt (Nat.lt_of_lt_of_le lt_b120b0 hs_b147b0)
      have ne_b40_b147b0 : b40 ≠ b147b0 := Nat.ne_of_lt (Nat.lt_of_lt_of_le lt_b40 hs_b147b0)
      have ne_b54_b147b0 : b54 ≠ b147b0 := Nat.ne_of_lt (Nat.lt_of_lt_of_le lt_b54 hs_b147b0)
      have ne_b61_b147b0 : b61 ≠ b147b0 := Nat.ne_of_lt (Nat.lt_of_lt_of_le lt_b61 hs_b147b0)
      have ne_b67b6b36b1_b147b0 : b67b6b36b1 ≠ b147b0 := Nat.ne_of_lt (Nat.lt_of_lt_of_le lt_b67b6b36b1 hs_b147b0)
      have ne_b88_b147b0 : b88 ≠ b147b0 := Nat.ne_of_lt (Nat.lt_of_lt_of_le lt_b88 hs_b147b0)
      have A_b40 := A_b40.keep Kc nin0
      have E_b40 := E_b40.keep Kc
      have E_b54 := E_b54.keep Kc
      have E_b61 := E_b61.keep Kc
      have F_coder_b61 := F_coder_b61.keep Kc nin0
      have F_value_b61 := F_value_b61.keep Kc nin0
      have A_b67b6b36b1 := A_b67b6b36b1.keep Kc nin0
      have E_b67b6b36b1 := E_b67b6b36b1.keep Kc
      have E_b88 := E_b88.keep Kc
      have F_value_b88 := F_value_b88.keep Kc nin0
      have F_failure_b88 := F_failure_b88.keep Kc nin0
      have E_b120b0 := E_b120b0.keep Kc
      have F_value_b120b0 := F_value_b120b0.keep Kc nin0
      have F_failure_b120b0 := F_failure_b120b0.keep Kc nin0
      have hk : T147.heap.size ≤ h147.size := by rw [eT]; exact Nat.le_refl _
      have K := K.trans Kc all0
      have Zs := Nat.le_trans Zs Kc.1
      have N := Fr.app N N9
      show Go p e below _ T147 (mkF m 150 #[.val (.int p1), .val (.int p2), .val (.int p3), .val (.int (0 : Int32)), .val (.int (1 : Int32)), .val .null, .val (.ref b40), .val (.ref b54), .val (.ref b54), .val (.ref b88), .val (.int (1 : Int32)), .val (.ref b120b0), .unset] [(.ref b147b0)])
      refine own_astore X hx hby at_150 rfl (l' := #[.val (.int p1), .val (.int p2), .val (.int p3), .val (.int (0 : Int32)), .val (.int (1 : Int32)), .val .null, .val (.ref b40), .val (.ref b54), .val (.ref b54), .val (.ref b88), .val (.int (1 : Int32)), .val (.ref b120b0), .val (.ref b147b0)]) rfl 152 rfl ?_
      refine own_iload X hx hby (1 : Int32) at_152 rfl 154 rfl ?_
      have c154 : ¬ (1 : Int32) = (0 : Int32) := by decide
      refine own_if_eq X hx hby at_154 169 157 (by decide) rfl (fun q => absurd q c154) (fun _ => ?_)
      refine own_aload X hx hby (.ref b147b0) at_157 rfl rfl 159 rfl ?_
      refine own_callV X hx hby hZ (st := []) [] rfl hown (hw _ (List.mem_of_getElem? (i := 127) rfl)) (hw _ (List.mem_of_getElem? (i := 128) rfl)) (hw _ (List.mem_of_getElem? (i := 130) rfl)) (hw _ (List.mem_of_getElem? (i := 129) rfl)) (hw _ (List.mem_of_getElem? (i := 113) rfl)) (hw _ (List.mem_of_getElem? (i := 131) rfl)) E_b147b0 (by decide) at_159 (rm17_r l Z a0 hw b147b0 b54 h147 n0 Zs F_failure_b147b0) eT pd_2 rfl (by rw [hml]; rfl) (by decide) 0 rfl (by decide) (by decide) (by decide) 162 rfl ?_
      intro T159 L9 v9 X hQ
      obtain ⟨rfl, N9, eT⟩ := hQ
      have N := Fr.app N N9
      show Go p e below _ T159 (mkF m 162 #[.val (.int p1), .val (.int p2), .val (.int p3), .val (.int (0 : Int32)), .val (.int (1 : Int32)), .val .null, .val (.ref b40), .val (.ref b54), .val (.ref b54), .val (.ref b88), .val (.int (1 : Int32)), .val (.ref b120b0), .val (.ref b147b0)] [(.int (1 : Int32))])
      have c162 : ¬ (1 : Int32) = (0 : Int32) := by decide
      refine own_if_eq X hx hby at_162 169 165 (by decide) rfl (fun q => absurd q c162) (fun _ => ?_)
      refine own_iconst X hx hby (1 : Int32) at_165 rfl 166 rfl ?_
      refine own_goto X hx hby at_166 170 (by decide) ?_
      refine own_istore X hx hby at_170 rfl (l' := #[.val (.int p1), .val (.int p2), .val (.int p3), .val (.int (0 : Int32)), .val (.int (1 : Int32)), .val .null, .val (.ref b40), .val (.ref b54), .val (.ref b54), .val (.ref b88), .val (.int (1 : Int32)), .val (.ref b120b0), .val (.ref b147b0)]) rfl 172 rfl ?_
      refine own_iload X hx hby (1 : Int32) at_172 rfl 174 rfl ?_
      refine own_retNW X hx hby hS (by rw [eT]; exact hk) hret hlk (t := .boolean) (z' := (1 : Int32)) (by simp) at_174 (by decide) (by decide) rfl ?_
      rw [eT]
      exact ⟨rfl, N⟩
  · skip
    refine own_iconst X hx hby (1 : Int32) at_6 rfl 7 rfl ?_
    refine own_goto X hx hby at_7 11 (by decide) ?_
    refine own_istoreN X hx hby at_11 rfl (l' := #[.val (.int p1), .val (.int p2), .val (.int p3), .val (.int (1 : Int32)), .unset, .unset, .unset, .unset, .unset, .unset, .unset, .unset, .unset]) rfl 12 rfl ?_
    refine own_iloadN X hx hby p2 at_12 rfl 13 rfl ?_
    refine own_iconst X hx hby (2 : Int32) at_13 rfl 14 rfl ?_
    refine own_iand X hx hby at_14 15 rfl ?_
    refine own_if_eq X hx hby at_15 22 18 (by decide) rfl (fun c15 => ?_) (fun c15 => ?_)
    · skip
      refine own_iconst X hx hby (0 : Int32) at_22 rfl 23 rfl ?_
      refine own_istore X hx hby at_23 rfl (l' := #[.val (.int p1), .val (.int p2), .val (.int p3), .val (.int (1 : Int32)), .val (.int (0 : Int32)), .unset, .unset, .unset, .unset, .unset, .unset, .unset, .unset]) rfl 25 rfl ?_
      refine own_iloadN X hx hby (1 : Int32) at_25 rfl 26 rfl ?_
      have c26 : ¬ (1 : Int32) = (0 : Int32) := by decide
      refine own_if_eq X hx hby at_26 36 29 (by decide) rfl (fun q => absurd q c26) (fun _ => ?_)
      refine own_iloadN X hx hby p1 at_29 rfl 30 rfl ?_
      refine own_callS X hx hby hZ (st := []) [(.int p1)] rfl hown (hw _ (List.mem_of_getElem? (i := 0) rfl)) (hw _ (List.mem_of_getElem? (i := 1) rfl)) (hw _ (List.mem_of_getElem? (i := 2) rfl)) (hw _ (List.mem_of_getElem? (i := 3) rfl)) (by decide) at_30 (rm1 l Z a0 hw p1 u_cache fc h0 n0 Zs A_cache hfc S_high S_cache) eT pd_3 rfl (by rw [hml]; rfl) (by decide) 0 rfl (by decide) (by decide) (by decide) 33 rfl ?_
      intro T30 L9 v9 X hQ
      obtain ⟨h30, eT⟩ : ∃ z, T30.heap = z := ⟨_, rfl⟩
      rw [eT] at hQ
      obtain ⟨b30rr, rfl, N9, Kc, E_b30rr⟩ := hQ
      have hk := Nat.le_trans hk Kc.1
      have K := K.trans Kc all0
      have Zs := Nat.le_trans Zs Kc.1
      have N := Fr.app N N9
      show Go p e below _ T30 (mkF m 33 #[.val (.int p1), .val (.int p2), .val (.int p3), .val (.int (1 : Int32)), .val (.int (0 : Int32)), .unset, .unset, .unset, .unset, .unset, .unset, .unset, .unset] [(.ref b30rr)])
      refine own_goto X hx hby at_33 37 (by decide) ?_
      refine own_astore X hx hby at_37 rfl (l' := #[.val (.int p1), .val (.int p2), .val (.int p3), .val (.int (1 : Int32)), .val (.int (0 : Int32)), .val (.ref b30rr), .unset, .unset, .unset, .unset, .unset, .unset, .unset]) rfl 39 rfl ?_
      refine own_iconst X hx hby (1 : Int32) at_39 rfl 40 rfl ?_
      refine own_newarray X hx hby hZ (hw _ (List.mem_of_getElem? (i := 7) rfl)) eT at_40 (z := (1 : Int32)) (by decide) (n := 1) rfl (cap := 1) (by decide) (by decide) (by decide) (by decide) (ad := "[C") rfl 42 rfl ?_
      intro T40 h40 b40 gb40 X eT Ex A A2
      have g_b40 : n0 ≤ b40 := by rw [gb40]; exact Zs
      have sz_b40 : h0.size ≤ b40 := by rw [gb40]; exact K.1
      have ne_b30rr_b40 : b30rr ≠ b40 := Nat.ne_of_lt (by rw [gb40]; exact E_b30rr.lt)
      have hk := Nat.le_trans hk Ex.1
      have E_b30rr := E_b30rr.ext Ex
      have A_b40 : Afi Z h40 b40 .char 1 (fun _ => (0 : Int32)) := A
      have E_b40 := A2
      have K := K.ext Ex
      have Zs := Nat.le_trans Zs Ex.1
      refine own_astore X hx hby at_42 rfl (l' := #[.val (.int p1), .val (.int p2), .val (.int p3), .val (.int (1 : Int32)), .val (.int (0 : Int32)), .val (.ref b30rr), .val (.ref b40), .unset, .unset, .unset, .unset, .unset, .unset]) rfl 44 rfl ?_
      refine own_aload X hx hby (.ref b40) at_44 rfl rfl 46 rfl ?_
      refine own_iconst X hx hby (0 : Int32) at_46 rfl 47 rfl ?_
      refine own_iloadN X hx hby p3 at_47 rfl 48 rfl ?_
      refine own_sipush X hx hby (255 : Int32) at_48 rfl 51 rfl ?_
      refine own_iand X hx hby at_51 52 rfl ?_
      refine own_i2c X hx hby at_52 53 rfl ?_
      refine own_castore X hx hby hZ eT A_b40 (by decide) at_53 54 rfl ?_
      intro T53 h53 X eT W A
      have hk := Nat.le_trans hk (Keep.of_wr W).1
      have E_b30rr := E_b30rr.wr W
      have E_b40 := E_b40.wr W
      have A_b40 : Afi Z h53 b40 .char 1 (updI (fun _ => (0 : Int32)) 0 (nar .char ((p3 &&& (255 : Int32)).toUInt32.toUInt16.toUInt32.toInt32))) := A
      have N := Fr.snoc X N g_b40
      have K := K.wr W (Or.inr sz_b40)
      have Zs := Nat.le_trans Zs (Keep.of_wr W).1
      refine own_newU X hx hby hZ hown (hw _ (List.mem_of_getElem? (i := 8) rfl)) (hw _ (List.mem_of_getElem? (i := 9) rfl)) (hw _ (List.mem_of_getElem? (i := 10) rfl)) eT at_54 (by decide) (by decide) 57 rfl ?_
      intro T54 h54 b54 gb54 X eT Ex A D Un
      have g_b54 : n0 ≤ b54 := by rw [gb54]; exact Zs
      have sz_b54 : h0.size ≤ b54 := by rw [gb54]; exact K.1
      have ne_b40_b54 : b40 ≠ b54 := Nat.ne_of_lt (by rw [gb54]; exact A_b40.lt)
      have ne_b30rr_b54 : b30rr ≠ b54 := Nat.ne_of_lt (by rw [gb54]; exact E_b30rr.lt)
      have hk := Nat.le_trans hk Ex.1
      have E_b30rr := E_b30rr.ext Ex
      have A_b40 := A_b40.ext Ex
      have E_b40 := E_b40.ext Ex
      have U_b54 := Un
      have E_b54 := A
      have F_cause_b54 : Fld Z h54 b54 "java/lang/Throwable" "cause" "Ljava/lang/Throwable;" .null := D (Or.inl (hw _ (List.mem_of_getElem? (i := 65) rfl))) (ty := (.object "java/lang/Throwable")) (by decide)
      have F_stackTrace_b54 : Fld Z h54 b54 "java/lang/Throwable" "stackTrace" "[Ljava/lang/StackTraceElement;" .null := D (Or.inl (hw _ (List.mem_of_getElem? (i := 68) rfl))) (ty := (.array (.object "java/lang/StackTraceElement"))) (by decide)
      have F_suppressedExceptions_b54 : Fld Z h54 b54 "java/lang/Throwable" "suppressedExceptions" "Ljava/util/List;" .null := D (Or.inl (hw _ (List.mem_of_getElem? (i := 71) rfl))) (ty := (.object "java/util/List")) (by decide)
      have F_detailMessage_b54 : Fld Z h54 b54 "java/lang/Throwable" "detailMessage" "Ljava/lang/String;" .null := D (Or.inl (hw _ (List.mem_of_getElem? (i := 95) rfl))) (ty := (.object "java/lang/String")) (by decide)
      have F_backtrace_b54 : Fld Z h54 b54 "java/lang/Throwable" "backtrace" "Ljava/lang/Object;" .null := D (Or.inl (hw _ (List.mem_of_getElem? (i := 96) rfl))) (ty := (.object "java/lang/Object")) (by decide)
      have F_depth_b54 : Fld Z h54 b54 "java/lang/Throwable" "depth" "I" (.int (0 : Int32)) := D (Or.inl (hw _ (List.mem_of_getElem? (i := 97) rfl))) (ty := .int) (by decide)
      have F_errorCode_b54 : Fld Z h54 b54 "com/example/inflight/inflight/ApiException" "errorCode" "Lcom/example/inflight/inflight/ErrorCode;" .null := D (Or.inr (hw _ (List.mem_of_getElem? (i := 110) rfl))) (ty := (.object "com/example/inflight/inflight/ErrorCode")) (by decide)
      have K := K.ext Ex
      have Zs := Nat.le_trans Zs Ex.1
      refine own_dup X hx hby at_57 rfl 58 rfl ?_
      refine own_getS X hx hby hZ hown (host := "") (Or.inl (hw _ (List.mem_of_getElem? (i := 11) rfl))) Via.refl eT (S_INVALID_PARAMETER_VALUE.ext (own_ext0 K)) at_58 61 rfl ?_
      intro T58 X eT
      refine own_new X hx hby hZ hown (hw _ (List.mem_of_getElem? (i := 14) rfl)) (hw _ (List.mem_of_getElem? (i := 15) rfl)) (hw _ (List.mem_of_getElem? (i := 16) rfl)) eT at_61 (by decide) (by decide) 64 rfl ?_
      intro T61 h61 b61 gb61 X eT Ex A D
      have g_b61 : n0 ≤ b61 := by rw [gb61]; exact Zs
      have sz_b61 : h0.size ≤ b61 := by rw [gb61]; exact K.1
      have ne_b40_b61 : b40 ≠ b61 := Nat.ne_of_lt (by rw [gb61]; exact A_b40.lt)
      have ne_b54_b61 : b54 ≠ b61 := Nat.ne_of_lt (by rw [gb61]; exact E_b54.lt)
      have ne_b30rr_b61 : b30rr ≠ b61 := Nat.ne_of_lt (by rw [gb61]; exact E_b30rr.lt)
      have hk := Nat.le_trans hk Ex.1
      have E_b30rr := E_b30rr.ext Ex
      have A_b40 := A_b40.ext Ex
      have E_b40 := E_b40.ext Ex
      have U_b54 := Unt.ext Ex U_b54
      have E_b54 := E_b54.ext Ex
      have F_cause_b54 := F_cause_b54.ext Ex
      have F_stackTrace_b54 := F_stackTrace_b54.ext Ex
      have F_suppressedExceptions_b54 := F_suppressedExceptions_b54.ext Ex
      have F_detailMessage_b54 := F_detailMessage_b54.ext Ex
      have F_backtrace_b54 := F_backtrace_b54.ext Ex
      have F_depth_b54 := F_depth_b54.ext Ex
      have F_errorCode_b54 := F_errorCode_b54.ext Ex
      have E_b61 := A
      have F_coder_b61 : Fld Z h61 b61 "java/lang/String" "coder" "B" (.int (0 : Int32)) := D (Or.inr (hw _ (List.mem_of_getElem? (i := 40) rfl))) (ty := .byte) (by decide)
      have F_value_b61 : Fld Z h61 b61 "java/lang/String" "value" "[B" .null := D (Or.inr (hw _ (List.mem_of_getElem? (i := 42) rfl))) (ty := (.array .byte)) (by decide)
      have K := K.ext Ex
      have Zs := Nat.le_trans Zs Ex.1
      refine own_dup X hx hby at_64 rfl 65 rfl ?_
      refine own_aload X hx hby (.ref b40) at_65 rfl rfl 67 rfl ?_
      refine own_callC X hx hby hZ (st := [(.ref b61), (.ref u_INVALID_PARAMETER_VALUE), (.ref b54), (.ref b54)]) [(.ref b40)] rfl rfl hown (hw _ (List.mem_of_getElem? (i := 17) rfl)) (hw _ (List.mem_of_getElem? (i := 18) rfl)) (hw _ (List.mem_of_getElem? (i := 16) rfl)) (hw _ (List.mem_of_getElem? (i := 19) rfl)) (by decide) at_67 (rm2 l Z a0 hw b61 b40 (updI (fun _ => (0 : Int32)) 0 (nar .char ((p3 &&& (255 : Int32)).toUInt32.toUInt16.toUInt32.toInt32))) (0 : Int32) .null u_COMPACT_STRINGS h61 n0 Zs hcs (own_ch _) A_b40 E_b40 E_b61 F_coder_b61 F_value_b61 g_b61 (S_COMPACT_STRINGS.ext (own_ext0 K)) g_b40) eT pd_13 rfl (by rw [hml]; rfl) (by decide) 4 rfl (by decide) (by decide) (by decide) 70 rfl ?_
      intro T67 L9 v9 X hQ
      obtain ⟨h67, eT⟩ : ∃ z, T67.heap = z := ⟨_, rfl⟩
      rw [eT] at hQ
      have lt_b30rr := E_b30rr.lt
      have lt_b40 := A_b40.lt
      have lt_b54 := E_b54.lt
      have lt_b61 := E_b61.lt
      obtain ⟨b67b6b36b1, rfl, N9, Kc, hs_b67b6b36b1, E_b61, F_coder_b61, F_value_b61, A_b67b6b36b1, E_b67b6b36b1⟩ := hQ
      have g_b67b6b36b1 : n0 ≤ b67b6b36b1 := Nat.le_trans Zs hs_b67b6b36b1
      have sz_b67b6b36b1 : h0.size ≤ b67b6b36b1 := Nat.le_trans K.1 hs_b67b6b36b1
      have ne_b30rr_b67b6b36b1 : b30rr ≠ b67b6b36b1 := Nat.ne_of_lt (Nat.lt_of_lt_of_le lt_b30rr hs_b67b6b36b1)
      have ne_b40_b67b6b36b1 : b40 ≠ b67b6b36b1 := Nat.ne_of_lt (Nat.lt_of_lt_of_le lt_b40 hs_b67b6b36b1)
      have ne_b54_b67b6b36b1 : b54 ≠ b67b6b36b1 := Nat.ne_of_lt (Nat.lt_of_lt_of_le lt_b54 hs_b67b6b36b1)
      have ne_b61_b67b6b36b1 : b61 ≠ b67b6b36b1 := Nat.ne_of_lt (Nat.lt_of_lt_of_le lt_b61 hs_b67b6b36b1)
      have hk := Nat.le_trans hk Kc.1
      have E_b30rr := E_b30rr.keep Kc
      have A_b40 := A_b40.keep Kc (ninS ne_b40_b61 nin0)
      have E_b40 := E_b40.keep Kc
      have U_b54 := Unt.keep Kc (ninS ne_b54_b61 nin0) U_b54
      have E_b54 := E_b54.keep Kc
      have F_cause_b54 := F_cause_b54.keep Kc (ninS ne_b54_b61 nin0)
      have F_stackTrace_b54 := F_stackTrace_b54.keep Kc (ninS ne_b54_b61 nin0)
      have F_suppressedExceptions_b54 := F_suppressedExceptions_b54.keep Kc (ninS ne_b54_b61 nin0)
      have F_detailMessage_b54 := F_detailMessage_b54.keep Kc (ninS ne_b54_b61 nin0)
      have F_backtrace_b54 := F_backtrace_b54.keep Kc (ninS ne_b54_b61 nin0)
      have F_depth_b54 := F_depth_b54.keep Kc (ninS ne_b54_b61 nin0)
      have F_errorCode_b54 := F_errorCode_b54.keep Kc (ninS ne_b54_b61 nin0)
      have K := K.trans Kc (allS (Or.inr sz_b61) all0)
      have Zs := Nat.le_trans Zs Kc.1
      have N := Fr.app N N9
      show Go p e below _ T67 (mkF m 70 #[.val (.int p1), .val (.int p2), .val (.int p3), .val (.int (1 : Int32)), .val (.int (0 : Int32)), .val (.ref b30rr), .val (.ref b40), .unset, .unset, .unset, .unset, .unset, .unset] [(.ref b61), (.ref u_INVALID_PARAMETER_VALUE), (.ref b54), (.ref b54)])
      refine own_callCK X hx hby hZ (st := [(.ref b54)]) [(.ref u_INVALID_PARAMETER_VALUE), (.ref b61)] rfl rfl hown hS hk hTK hBelow (hw _ (List.mem_of_getElem? (i := 43) rfl)) (hw _ (List.mem_of_getElem? (i := 44) rfl)) (hw _ (List.mem_of_getElem? (i := 10) rfl)) (hw _ (List.mem_of_getElem? (i := 45) rfl)) (by decide) at_70 (rm8 l Z a0 hw b54 u_INVALID_PARAMETER_VALUE b61 .null .null .null .null (0 : Int32) .null u_UNASSIGNED_STACK u_SUPPRESSED_SENTINEL h67 n0 Zs hst hU hV U_b54 E_b54 F_cause_b54 F_stackTrace_b54 F_suppressedExceptions_b54 F_detailMessage_b54 F_backtrace_b54 F_depth_b54 F_errorCode_b54 g_b54 (S_UNASSIGNED_STACK.ext (own_ext0 K)) (S_SUPPRESSED_SENTINEL.ext (own_ext0 K)) (E_u_INVALID_PARAMETER_VALUE.ext (own_ext0 K))) eT pd_7 rfl (by rw [hml]; rfl) (by decide) 1 rfl (by decide) (by decide) (by decide) 73 rfl ?_
      intro T70 L9 v9 vm70 X hS hZ hown hQ
      obtain ⟨h70, eT⟩ : ∃ z, T70.heap = z := ⟨_, rfl⟩
      rw [eT] at hQ
      obtain ⟨rfl, N9, Kc, E_b54⟩ := hQ
      have E_b30rr := E_b30rr.keep Kc
      have A_b40 := A_b40.keep Kc (ninS ne_b40_b54 nin0)
      have E_b40 := E_b40.keep Kc
      have E_b61 := E_b61.keep Kc
      have F_coder_b61 := F_coder_b61.keep Kc (ninS (Ne.symm ne_b54_b61) nin0)
      have F_value_b61 := F_value_b61.keep Kc (ninS (Ne.symm ne_b54_b61) nin0)
      have A_b67b6b36b1 := A_b67b6b36b1.keep Kc (ninS (Ne.symm ne_b54_b67b6b36b1) nin0)
      have E_b67b6b36b1 := E_b67b6b36b1.keep Kc
      have hk : T70.heap.size ≤ h70.size := by rw [eT]; exact Nat.le_refl _
      have K := K.trans Kc (allS (Or.inr sz_b54) all0)
      have Zs := Nat.le_trans Zs Kc.1
      have N := Fr.app N N9
      show Go p e below _ T70 (mkF m 73 #[.val (.int p1), .val (.int p2), .val (.int p3), .val (.int (1 : Int32)), .val (.int (0 : Int32)), .val (.ref b30rr), .val (.ref b40), .unset, .unset, .unset, .unset, .unset, .unset] [(.ref b54)])
      refine own_astore X hx hby at_73 rfl (l' := #[.val (.int p1), .val (.int p2), .val (.int p3), .val (.int (1 : Int32)), .val (.int (0 : Int32)), .val (.ref b30rr), .val (.ref b40), .val (.ref b54), .unset, .unset, .unset, .unset, .unset]) rfl 75 rfl ?_
      refine own_iload X hx hby (0 : Int32) at_75 rfl 77 rfl ?_
      have c77 : (0 : Int32) = (0 : Int32) := by decide
      refine own_if_eq X hx hby at_77 85 80 (by decide) rfl (fun _ => ?_) (fun q => absurd c77 q)
      refine own_aconstNull X hx hby at_85 86 rfl ?_
      refine own_astore X hx hby at_86 rfl (l' := #[.val (.int p1), .val (.int p2), .val (.int p3), .val (.int (1 : Int32)), .val (.int (0 : Int32)), .val (.ref b30rr), .val (.ref b40), .val (.ref b54), .val .null, .unset, .unset, .unset, .unset]) rfl 88 rfl ?_
      refine own_new X hx hby hZ hown (hw _ (List.mem_of_getElem? (i := 111) rfl)) (hw _ (List.mem_of_getElem? (i := 112) rfl)) (hw _ (List.mem_of_getElem? (i := 113) rfl)) eT at_88 (by decide) (by decide) 91 rfl ?_
      intro T88 h88 b88 gb88 X eT Ex A D
      have g_b88 : n0 ≤ b88 := by rw [gb88]; exact Zs
      have sz_b88 : h0.size ≤ b88 := by rw [gb88]; exact K.1
      have ne_b40_b88 : b40 ≠ b88 := Nat.ne_of_lt (by rw [gb88]; exact A_b40.lt)
      have ne_b67b6b36b1_b88 : b67b6b36b1 ≠ b88 := Nat.ne_of_lt (by rw [gb88]; exact A_b67b6b36b1.lt)
      have ne_b54_b88 : b54 ≠ b88 := Nat.ne_of_lt (by rw [gb88]; exact E_b54.lt)
      have ne_b61_b88 : b61 ≠ b88 := Nat.ne_of_lt (by rw [gb88]; exact E_b61.lt)
      have ne_b30rr_b88 : b30rr ≠ b88 := Nat.ne_of_lt (by rw [gb88]; exact E_b30rr.lt)
      have hk := Nat.le_trans hk Ex.1
      have E_b30rr := E_b30rr.ext Ex
      have A_b40 := A_b40.ext Ex
      have E_b40 := E_b40.ext Ex
      have E_b54 := E_b54.ext Ex
      have E_b61 := E_b61.ext Ex
      have F_coder_b61 := F_coder_b61.ext Ex
      have F_value_b61 := F_value_b61.ext Ex
      have A_b67b6b36b1 := A_b67b6b36b1.ext Ex
      have E_b67b6b36b1 := E_b67b6b36b1.ext Ex
      have E_b88 := A
      have F_value_b88 : Fld Z h88 b88 "com/example/inflight/inflight/Outcome" "value" "Ljava/lang/Object;" .null := D (Or.inr (hw _ (List.mem_of_getElem? (i := 124) rfl))) (ty := (.object "java/lang/Object")) (by decide)
      have F_failure_b88 : Fld Z h88 b88 "com/example/inflight/inflight/Outcome" "failure" "Lcom/example/inflight/inflight/ApiException;" .null := D (Or.inr (hw _ (List.mem_of_getElem? (i := 126) rfl))) (ty := (.object "com/example/inflight/inflight/ApiException")) (by decide)
      have K := K.ext Ex
      have Zs := Nat.le_trans Zs Ex.1
      refine own_dup X hx hby at_91 rfl 92 rfl ?_
      refine own_aload X hx hby (.ref b30rr) at_92 rfl rfl 94 rfl ?_
      refine own_aload X hx hby .null at_94 rfl rfl 96 rfl ?_
      refine own_callC X hx hby hZ (st := [(.ref b88)]) [(.ref b30rr), .null] rfl rfl hown (hw _ (List.mem_of_getElem? (i := 114) rfl)) (hw _ (List.mem_of_getElem? (i := 115) rfl)) (hw _ (List.mem_of_getElem? (i := 113) rfl)) (hw _ (List.mem_of_getElem? (i := 116) rfl)) (by decide) at_96 (rm15_rn l Z a0 hw b88 b30rr .null .null h88 n0 Zs E_b88 F_value_b88 F_failure_b88 g_b88) eT pd_9 rfl (by rw [hml]; rfl) (by decide) 1 rfl (by decide) (by decide) (by decide) 99 rfl ?_
      intro T96 L9 v9 X hQ
      obtain ⟨h96, eT⟩ : ∃ z, T96.heap = z := ⟨_, rfl⟩
      rw [eT] at hQ
      obtain ⟨rfl, N9, Kc, E_b88, F_value_b88, F_failure_b88⟩ := hQ
      have hk := Nat.le_trans hk Kc.1
      have E_b30rr := E_b30rr.keep Kc
      have A_b40 := A_b40.keep Kc (ninS ne_b40_b88 nin0)
      have E_b40 := E_b40.keep Kc
      have E_b54 := E_b54.keep Kc
      have E_b61 := E_b61.keep Kc
      have F_coder_b61 := F_coder_b61.keep Kc (ninS ne_b61_b88 nin0)
      have F_value_b61 := F_value_b61.keep Kc (ninS ne_b61_b88 nin0)
      have A_b67b6b36b1 := A_b67b6b36b1.keep Kc (ninS ne_b67b6b36b1_b88 nin0)
      have E_b67b6b36b1 := E_b67b6b36b1.keep Kc
      have K := K.trans Kc (allS (Or.inr sz_b88) all0)
      have Zs := Nat.le_trans Zs Kc.1
      have N := Fr.app N N9
      show Go p e below _ T96 (mkF m 99 #[.val (.int p1), .val (.int p2), .val (.int p3), .val (.int (1 : Int32)), .val (.int (0 : Int32)), .val (.ref b30rr), .val (.ref b40), .val (.ref b54), .val .null, .unset, .unset, .unset, .unset] [(.ref b88)])
      refine own_astore X hx hby at_99 rfl (l' := #[.val (.int p1), .val (.int p2), .val (.int p3), .val (.int (1 : Int32)), .val (.int (0 : Int32)), .val (.ref b30rr), .val (.ref b40), .val (.ref b54), .val .null, .val (.ref b88), .unset, .unset, .unset]) rfl 101 rfl ?_
      refine own_aload X hx hby (.ref b88) at_101 rfl rfl 103 rfl ?_
      refine own_callV X hx hby hZ (st := []) [] rfl hown (hw _ (List.mem_of_getElem? (i := 127) rfl)) (hw _ (List.mem_of_getElem? (i := 128) rfl)) (hw _ (List.mem_of_getElem? (i := 130) rfl)) (hw _ (List.mem_of_getElem? (i := 129) rfl)) (hw _ (List.mem_of_getElem? (i := 113) rfl)) (hw _ (List.mem_of_getElem? (i := 131) rfl)) E_b88 (by decide) at_103 (rm17_n l Z a0 hw b88 h96 n0 Zs F_failure_b88) eT pd_2 rfl (by rw [hml]; rfl) (by decide) 0 rfl (by decide) (by decide) (by decide) 106 rfl ?_
      intro T103 L9 v9 X hQ
      obtain ⟨rfl, N9, eT⟩ := hQ
      have N := Fr.app N N9
      show Go p e below _ T103 (mkF m 106 #[.val (.int p1), .val (.int p2), .val (.int p3), .val (.int (1 : Int32)), .val (.int (0 : Int32)), .val (.ref b30rr), .val (.ref b40), .val (.ref b54), .val .null, .val (.ref b88), .unset, .unset, .unset] [(.int (0 : Int32))])
      refine own_iload X hx hby (0 : Int32) at_106 rfl 108 rfl ?_
      have c108 : (0 : Int32) = (0 : Int32) := by decide
      refine own_icmp_ne X hx hby at_108 115 111 (by decide) rfl (fun q => absurd c108 q) (fun _ => ?_)
      refine own_iconst X hx hby (1 : Int32) at_111 rfl 112 rfl ?_
      refine own_goto X hx hby at_112 116 (by decide) ?_
      refine own_istore X hx hby at_116 rfl (l' := #[.val (.int p1), .val (.int p2), .val (.int p3), .val (.int (1 : Int32)), .val (.int (0 : Int32)), .val (.ref b30rr), .val (.ref b40), .val (.ref b54), .val .null, .val (.ref b88), .val (.int (1 : Int32)), .unset, .unset]) rfl 118 rfl ?_
      refine own_aload X hx hby (.ref b30rr) at_118 rfl rfl 120 rfl ?_
      refine own_callS X hx hby hZ (st := []) [(.ref b30rr)] rfl hown (hw _ (List.mem_of_getElem? (i := 132) rfl)) (hw _ (List.mem_of_getElem? (i := 133) rfl)) (hw _ (List.mem_of_getElem? (i := 113) rfl)) (hw _ (List.mem_of_getElem? (i := 134) rfl)) (by decide) at_120 (rm18_r l Z a0 hw b30rr h96 n0 Zs ) eT pd_8 rfl (by rw [hml]; rfl) (by decide) 0 rfl (by decide) (by decide) (by decide) 123 rfl ?_
      intro T120 L9 v9 X hQ
      obtain ⟨h120, eT⟩ : ∃ z, T120.heap = z := ⟨_, rfl⟩
      rw [eT] at hQ
      have lt_b30rr := E_b30rr.lt
      have lt_b40 := A_b40.lt
      have lt_b54 := E_b54.lt
      have lt_b61 := E_b61.lt
      have lt_b67b6b36b1 := A_b67b6b36b1.lt
      have lt_b88 := E_b88.lt
      obtain ⟨b120b0, rfl, N9, Kc, hs_b120b0, E_b120b0, F_value_b120b0, F_failure_b120b0⟩ := hQ
      have g_b120b0 : n0 ≤ b120b0 := Nat.le_trans Zs hs_b120b0
      have sz_b120b0 : h0.size ≤ b120b0 := Nat.le_trans K.1 hs_b120b0
      have ne_b30rr_b120b0 : b30rr ≠ b120b0 := Nat.ne_of_lt (Nat.lt_of_lt_of_le lt_b30rr hs_b120b0)
      have ne_b40_b120b0 : b40 ≠ b120b0 := Nat.ne_of_lt (Nat.lt_of_lt_of_le lt_b40 hs_b120b0)
      have ne_b54_b120b0 : b54 ≠ b120b0 := Nat.ne_of_lt (Nat.lt_of_lt_of_le lt_b54 hs_b120b0)
      have ne_b61_b120b0 : b61 ≠ b120b0 := Nat.ne_of_lt (Nat.lt_of_lt_of_le lt_b61 hs_b120b0)
      have ne_b67b6b36b1_b120b0 : b67b6b36b1 ≠ b120b0 := Nat.ne_of_lt (Nat.lt_of_lt_of_le lt_b67b6b36b1 hs_b120b0)
      have ne_b88_b120b0 : b88 ≠ b120b0 := Nat.ne_of_lt (Nat.lt_of_lt_of_le lt_b88 hs_b120b0)
      have hk := Nat.le_trans hk Kc.1
      have E_b30rr := E_b30rr.keep Kc
      have A_b40 := A_b40.keep Kc nin0
      have E_b40 := E_b40.keep Kc
      have E_b54 := E_b54.keep Kc
      have E_b61 := E_b61.keep Kc
      have F_coder_b61 := F_coder_b61.keep Kc nin0
      have F_value_b61 := F_value_b61.keep Kc nin0
      have A_b67b6b36b1 := A_b67b6b36b1.keep Kc nin0
      have E_b67b6b36b1 := E_b67b6b36b1.keep Kc
      have E_b88 := E_b88.keep Kc
      have F_value_b88 := F_value_b88.keep Kc nin0
      have F_failure_b88 := F_failure_b88.keep Kc nin0
      have K := K.trans Kc all0
      have Zs := Nat.le_trans Zs Kc.1
      have N := Fr.app N N9
      show Go p e below _ T120 (mkF m 123 #[.val (.int p1), .val (.int p2), .val (.int p3), .val (.int (1 : Int32)), .val (.int (0 : Int32)), .val (.ref b30rr), .val (.ref b40), .val (.ref b54), .val .null, .val (.ref b88), .val (.int (1 : Int32)), .unset, .unset] [(.ref b120b0)])
      refine own_astore X hx hby at_123 rfl (l' := #[.val (.int p1), .val (.int p2), .val (.int p3), .val (.int (1 : Int32)), .val (.int (0 : Int32)), .val (.ref b30rr), .val (.ref b40), .val (.ref b54), .val .null, .val (.ref b88), .val (.int (1 : Int32)), .val (.ref b120b0), .unset]) rfl 125 rfl ?_
      refine own_iload X hx hby (1 : Int32) at_125 rfl 127 rfl ?_
      have c127 : ¬ (1 : Int32) = (0 : Int32) := by decide
      refine own_if_eq X hx hby at_127 142 130 (by decide) rfl (fun q => absurd q c127) (fun _ => ?_)
      refine own_aload X hx hby (.ref b120b0) at_130 rfl rfl 132 rfl ?_
      refine own_callV X hx hby hZ (st := []) [] rfl hown (hw _ (List.mem_of_getElem? (i := 127) rfl)) (hw _ (List.mem_of_getElem? (i := 128) rfl)) (hw _ (List.mem_of_getElem? (i := 130) rfl)) (hw _ (List.mem_of_getElem? (i := 129) rfl)) (hw _ (List.mem_of_getElem? (i := 113) rfl)) (hw _ (List.mem_of_getElem? (i := 131) rfl)) E_b120b0 (by decide) at_132 (rm17_n l Z a0 hw b120b0 h120 n0 Zs F_failure_b120b0) eT pd_2 rfl (by rw [hml]; rfl) (by decide) 0 rfl (by decide) (by decide) (by decide) 135 rfl ?_
      intro T132 L9 v9 X hQ
      obtain ⟨rfl, N9, eT⟩ := hQ
      have N := Fr.app N N9
      show Go p e below _ T132 (mkF m 135 #[.val (.int p1), .val (.int p2), .val (.int p3), .val (.int (1 : Int32)), .val (.int (0 : Int32)), .val (.ref b30rr), .val (.ref b40), .val (.ref b54), .val .null, .val (.ref b88), .val (.int (1 : Int32)), .val (.ref b120b0), .unset] [(.int (0 : Int32))])
      have c135 : (0 : Int32) = (0 : Int32) := by decide
      refine own_if_ne X hx hby at_135 142 138 (by decide) rfl (fun q => absurd c135 q) (fun _ => ?_)
      refine own_iconst X hx hby (1 : Int32) at_138 rfl 139 rfl ?_
      refine own_goto X hx hby at_139 143 (by decide) ?_
      refine own_istore X hx hby at_143 rfl (l' := #[.val (.int p1), .val (.int p2), .val (.int p3), .val (.int (1 : Int32)), .val (.int (0 : Int32)), .val (.ref b30rr), .val (.ref b40), .val (.ref b54), .val .null, .val (.ref b88), .val (.int (1 : Int32)), .val (.ref b120b0), .unset]) rfl 145 rfl ?_
      refine own_aload X hx hby (.ref b54) at_145 rfl rfl 147 rfl ?_
      refine own_callSW X hx hby hZ (st := []) [(.ref b54)] rfl hown hS hk (hw _ (List.mem_of_getElem? (i := 137) rfl)) (hw _ (List.mem_of_getElem? (i := 138) rfl)) (hw _ (List.mem_of_getElem? (i := 113) rfl)) (hw _ (List.mem_of_getElem? (i := 139) rfl)) (by decide) at_147 (rm19 l Z a0 hw b54 h120 n0 Zs E_b54) eT pd_6 rfl (by rw [hml]; rfl) (by decide) 0 rfl (by decide) (by decide) (by decide) 150 rfl ?_
      intro T147 L9 v9 vm147 X hS hZ hown hQ
      obtain ⟨h147, eT⟩ : ∃ z, T147.heap = z := ⟨_, rfl⟩
      rw [eT] at hQ
      have lt_b120b0 := E_b120b0.lt
      have lt_b30rr := E_b30rr.lt
      have lt_b40 := A_b40.lt
      have lt_b54 := E_b54.lt
      have lt_b61 := E_b61.lt
      have lt_b67b6b36b1 := A_b67b6b36b1.lt
      have lt_b88 := E_b88.lt
      obtain ⟨b147b0, rfl, N9, Kc, hs_b147b0, E_b147b0, F_value_b147b0, F_failure_b147b0⟩ := hQ
      have g_b147b0 : n0 ≤ b147b0 := Nat.le_trans Zs hs_b147b0
      have sz_b147b0 : h0.size ≤ b147b0 := Nat.le_trans K.1 hs_b147b0
      have ne_b120b0_b147b0 : b120b0 ≠ b147b0 := Nat.ne_of_lt (Nat.lt_of_lt_of_le lt_b120b0 hs_b147b0)
      have ne_b30rr_b147b0 : b30rr ≠ b147b0 := Nat.ne_of_lt (Nat.lt_of_lt_of_le lt_b30rr hs_b147b0)
      have ne_b40_b147b0 : b40 ≠ b147b0 := Nat.ne_of_lt (Nat.lt_of_lt_of_le lt_b40 hs_b147b0)
      have ne_b54_b147b0 : b54 ≠ b147b0 := Nat.ne_of_lt (Nat.lt_of_lt_of_le lt_b54 hs_b147b0)
      have ne_b61_b147b0 : b61 ≠ b147b0 := Nat.ne_of_lt (Nat.lt_of_lt_of_le lt_b61 hs_b147b0)
      have ne_b67b6b36b1_b147b0 : b67b6b36b1 ≠ b147b0 := Nat.ne_of_lt (Nat.lt_of_lt_of_le lt_b67b6b36b1 hs_b147b0)
      have ne_b88_b147b0 : b88 ≠ b147b0 := Nat.ne_of_lt (Nat.lt_of_lt_of_le lt_b88 hs_b147b0)
      have E_b30rr := E_b30rr.keep Kc
      have A_b40 := A_b40.keep Kc nin0
      have E_b40 := E_b40.keep Kc
      have E_b54 := E_b54.keep Kc
      have E_b61 := E_b61.keep Kc
      have F_coder_b61 := F_coder_b61.keep Kc nin0
      have F_value_b61 := F_value_b61.keep Kc nin0
      have A_b67b6b36b1 := A_b67b6b36b1.keep Kc nin0
      have E_b67b6b36b1 := E_b67b6b36b1.keep Kc
      have E_b88 := E_b88.keep Kc
      have F_value_b88 := F_value_b88.keep Kc nin0
      have F_failure_b88 := F_failure_b88.keep Kc nin0
      have E_b120b0 := E_b120b0.keep Kc
      have F_value_b120b0 := F_value_b120b0.keep Kc nin0
      have F_failure_b120b0 := F_failure_b120b0.keep Kc nin0
      have hk : T147.heap.size ≤ h147.size := by rw [eT]; exact Nat.le_refl _
      have K := K.trans Kc all0
      have Zs := Nat.le_trans Zs Kc.1
      have N := Fr.app N N9
      show Go p e below _ T147 (mkF m 150 #[.val (.int p1), .val (.int p2), .val (.int p3), .val (.int (1 : Int32)), .val (.int (0 : Int32)), .val (.ref b30rr), .val (.ref b40), .val (.ref b54), .val .null, .val (.ref b88), .val (.int (1 : Int32)), .val (.ref b120b0), .unset] [(.ref b147b0)])
      refine own_astore X hx hby at_150 rfl (l' := #[.val (.int p1), .val (.int p2), .val (.int p3), .val (.int (1 : Int32)), .val (.int (0 : Int32)), .val (.ref b30rr), .val (.ref b40), .val (.ref b54), .val .null, .val (.ref b88), .val (.int (1 : Int32)), .val (.ref b120b0), .val (.ref b147b0)]) rfl 152 rfl ?_
      refine own_iload X hx hby (1 : Int32) at_152 rfl 154 rfl ?_
      have c154 : ¬ (1 : Int32) = (0 : Int32) := by decide
      refine own_if_eq X hx hby at_154 169 157 (by decide) rfl (fun q => absurd q c154) (fun _ => ?_)
      refine own_aload X hx hby (.ref b147b0) at_157 rfl rfl 159 rfl ?_
      refine own_callV X hx hby hZ (st := []) [] rfl hown (hw _ (List.mem_of_getElem? (i := 127) rfl)) (hw _ (List.mem_of_getElem? (i := 128) rfl)) (hw _ (List.mem_of_getElem? (i := 130) rfl)) (hw _ (List.mem_of_getElem? (i := 129) rfl)) (hw _ (List.mem_of_getElem? (i := 113) rfl)) (hw _ (List.mem_of_getElem? (i := 131) rfl)) E_b147b0 (by decide) at_159 (rm17_r l Z a0 hw b147b0 b54 h147 n0 Zs F_failure_b147b0) eT pd_2 rfl (by rw [hml]; rfl) (by decide) 0 rfl (by decide) (by decide) (by decide) 162 rfl ?_
      intro T159 L9 v9 X hQ
      obtain ⟨rfl, N9, eT⟩ := hQ
      have N := Fr.app N N9
      show Go p e below _ T159 (mkF m 162 #[.val (.int p1), .val (.int p2), .val (.int p3), .val (.int (1 : Int32)), .val (.int (0 : Int32)), .val (.ref b30rr), .val (.ref b40), .val (.ref b54), .val .null, .val (.ref b88), .val (.int (1 : Int32)), .val (.ref b120b0), .val (.ref b147b0)] [(.int (1 : Int32))])
      have c162 : ¬ (1 : Int32) = (0 : Int32) := by decide
      refine own_if_eq X hx hby at_162 169 165 (by decide) rfl (fun q => absurd q c162) (fun _ => ?_)
      refine own_iconst X hx hby (1 : Int32) at_165 rfl 166 rfl ?_
      refine own_goto X hx hby at_166 170 (by decide) ?_
      refine own_istore X hx hby at_170 rfl (l' := #[.val (.int p1), .val (.int p2), .val (.int p3), .val (.int (1 : Int32)), .val (.int (0 : Int32)), .val (.ref b30rr), .val (.ref b40), .val (.ref b54), .val .null, .val (.ref b88), .val (.int (1 : Int32)), .val (.ref b120b0), .val (.ref b147b0)]) rfl 172 rfl ?_
      refine own_iload X hx hby (1 : Int32) at_172 rfl 174 rfl ?_
      refine own_retNW X hx hby hS (by rw [eT]; exact hk) hret hlk (t := .boolean) (z' := (1 : Int32)) (by simp) at_174 (by decide) (by decide) rfl ?_
      rw [eT]
      exact ⟨rfl, N⟩
    · skip
      refine own_iconst X hx hby (1 : Int32) at_18 rfl 19 rfl ?_
      refine own_goto X hx hby at_19 23 (by decide) ?_
      refine own_istore X hx hby at_23 rfl (l' := #[.val (.int p1), .val (.int p2), .val (.int p3), .val (.int (1 : Int32)), .val (.int (1 : Int32)), .unset, .unset, .unset, .unset, .unset, .unset, .unset, .unset]) rfl 25 rfl ?_
      refine own_iloadN X hx hby (1 : Int32) at_25 rfl 26 rfl ?_
      have c26 : ¬ (1 : Int32) = (0 : Int32) := by decide
      refine own_if_eq X hx hby at_26 36 29 (by decide) rfl (fun q => absurd q c26) (fun _ => ?_)
      refine own_iloadN X hx hby p1 at_29 rfl 30 rfl ?_
      refine own_callS X hx hby hZ (st := []) [(.int p1)] rfl hown (hw _ (List.mem_of_getElem? (i := 0) rfl)) (hw _ (List.mem_of_getElem? (i := 1) rfl)) (hw _ (List.mem_of_getElem? (i := 2) rfl)) (hw _ (List.mem_of_getElem? (i := 3) rfl)) (by decide) at_30 (rm1 l Z a0 hw p1 u_cache fc h0 n0 Zs A_cache hfc S_high S_cache) eT pd_3 rfl (by rw [hml]; rfl) (by decide) 0 rfl (by decide) (by decide) (by decide) 33 rfl ?_
      intro T30 L9 v9 X hQ
      obtain ⟨h30, eT⟩ : ∃ z, T30.heap = z := ⟨_, rfl⟩
      rw [eT] at hQ
      obtain ⟨b30rr, rfl, N9, Kc, E_b30rr⟩ := hQ
      have hk := Nat.le_trans hk Kc.1
      have K := K.trans Kc all0
      have Zs := Nat.le_trans Zs Kc.1
      have N := Fr.app N N9
      show Go p e below _ T30 (mkF m 33 #[.val (.int p1), .val (.int p2), .val (.int p3), .val (.int (1 : Int32)), .val (.int (1 : Int32)), .unset, .unset, .unset, .unset, .unset, .unset, .unset, .unset] [(.ref b30rr)])
      refine own_goto X hx hby at_33 37 (by decide) ?_
      refine own_astore X hx hby at_37 rfl (l' := #[.val (.int p1), .val (.int p2), .val (.int p3), .val (.int (1 : Int32)), .val (.int (1 : Int32)), .val (.ref b30rr), .unset, .unset, .unset, .unset, .unset, .unset, .unset]) rfl 39 rfl ?_
      refine own_iconst X hx hby (1 : Int32) at_39 rfl 40 rfl ?_
      refine own_newarray X hx hby hZ (hw _ (List.mem_of_getElem? (i := 7) rfl)) eT at_40 (z := (1 : Int32)) (by decide) (n := 1) rfl (cap := 1) (by decide) (by decide) (by decide) (by decide) (ad := "[C") rfl 42 rfl ?_
      intro T40 h40 b40 gb40 X eT Ex A A2
      have g_b40 : n0 ≤ b40 := by rw [gb40]; exact Zs
      have sz_b40 : h0.size ≤ b40 := by rw [gb40]; exact K.1
      have ne_b30rr_b40 : b30rr ≠ b40 := Nat.ne_of_lt (by rw [gb40]; exact E_b30rr.lt)
      have hk := Nat.le_trans hk Ex.1
      have E_b30rr := E_b30rr.ext Ex
      have A_b40 : Afi Z h40 b40 .char 1 (fun _ => (0 : Int32)) := A
      have E_b40 := A2
      have K := K.ext Ex
      have Zs := Nat.le_trans Zs Ex.1
      refine own_astore X hx hby at_42 rfl (l' := #[.val (.int p1), .val (.int p2), .val (.int p3), .val (.int (1 : Int32)), .val (.int (1 : Int32)), .val (.ref b30rr), .val (.ref b40), .unset, .unset, .unset, .unset, .unset, .unset]) rfl 44 rfl ?_
      refine own_aload X hx hby (.ref b40) at_44 rfl rfl 46 rfl ?_
      refine own_iconst X hx hby (0 : Int32) at_46 rfl 47 rfl ?_
      refine own_iloadN X hx hby p3 at_47 rfl 48 rfl ?_
      refine own_sipush X hx hby (255 : Int32) at_48 rfl 51 rfl ?_
      refine own_iand X hx hby at_51 52 rfl ?_
      refine own_i2c X hx hby at_52 53 rfl ?_
      refine own_castore X hx hby hZ eT A_b40 (by decide) at_53 54 rfl ?_
      intro T53 h53 X eT W A
      have hk := Nat.le_trans hk (Keep.of_wr W).1
      have E_b30rr := E_b30rr.wr W
      have E_b40 := E_b40.wr W
      have A_b40 : Afi Z h53 b40 .char 1 (updI (fun _ => (0 : Int32)) 0 (nar .char ((p3 &&& (255 : Int32)).toUInt32.toUInt16.toUInt32.toInt32))) := A
      have N := Fr.snoc X N g_b40
      have K := K.wr W (Or.inr sz_b40)
      have Zs := Nat.le_trans Zs (Keep.of_wr W).1
      refine own_newU X hx hby hZ hown (hw _ (List.mem_of_getElem? (i := 8) rfl)) (hw _ (List.mem_of_getElem? (i := 9) rfl)) (hw _ (List.mem_of_getElem? (i := 10) rfl)) eT at_54 (by decide) (by decide) 57 rfl ?_
      intro T54 h54 b54 gb54 X eT Ex A D Un
      have g_b54 : n0 ≤ b54 := by rw [gb54]; exact Zs
      have sz_b54 : h0.size ≤ b54 := by rw [gb54]; exact K.1
      have ne_b40_b54 : b40 ≠ b54 := Nat.ne_of_lt (by rw [gb54]; exact A_b40.lt)
      have ne_b30rr_b54 : b30rr ≠ b54 := Nat.ne_of_lt (by rw [gb54]; exact E_b30rr.lt)
      have hk := Nat.le_trans hk Ex.1
      have E_b30rr := E_b30rr.ext Ex
      have A_b40 := A_b40.ext Ex
      have E_b40 := E_b40.ext Ex
      have U_b54 := Un
      have E_b54 := A
      have F_cause_b54 : Fld Z h54 b54 "java/lang/Throwable" "cause" "Ljava/lang/Throwable;" .null := D (Or.inl (hw _ (List.mem_of_getElem? (i := 65) rfl))) (ty := (.object "java/lang/Throwable")) (by decide)
      have F_stackTrace_b54 : Fld Z h54 b54 "java/lang/Throwable" "stackTrace" "[Ljava/lang/StackTraceElement;" .null := D (Or.inl (hw _ (List.mem_of_getElem? (i := 68) rfl))) (ty := (.array (.object "java/lang/StackTraceElement"))) (by decide)
      have F_suppressedExceptions_b54 : Fld Z h54 b54 "java/lang/Throwable" "suppressedExceptions" "Ljava/util/List;" .null := D (Or.inl (hw _ (List.mem_of_getElem? (i := 71) rfl))) (ty := (.object "java/util/List")) (by decide)
      have F_detailMessage_b54 : Fld Z h54 b54 "java/lang/Throwable" "detailMessage" "Ljava/lang/String;" .null := D (Or.inl (hw _ (List.mem_of_getElem? (i := 95) rfl))) (ty := (.object "java/lang/String")) (by decide)
      have F_backtrace_b54 : Fld Z h54 b54 "java/lang/Throwable" "backtrace" "Ljava/lang/Object;" .null := D (Or.inl (hw _ (List.mem_of_getElem? (i := 96) rfl))) (ty := (.object "java/lang/Object")) (by decide)
      have F_depth_b54 : Fld Z h54 b54 "java/lang/Throwable" "depth" "I" (.int (0 : Int32)) := D (Or.inl (hw _ (List.mem_of_getElem? (i := 97) rfl))) (ty := .int) (by decide)
      have F_errorCode_b54 : Fld Z h54 b54 "com/example/inflight/inflight/ApiException" "errorCode" "Lcom/example/inflight/inflight/ErrorCode;" .null := D (Or.inr (hw _ (List.mem_of_getElem? (i := 110) rfl))) (ty := (.object "com/example/inflight/inflight/ErrorCode")) (by decide)
      have K := K.ext Ex
      have Zs := Nat.le_trans Zs Ex.1
      refine own_dup X hx hby at_57 rfl 58 rfl ?_
      refine own_getS X hx hby hZ hown (host := "") (Or.inl (hw _ (List.mem_of_getElem? (i := 11) rfl))) Via.refl eT (S_INVALID_PARAMETER_VALUE.ext (own_ext0 K)) at_58 61 rfl ?_
      intro T58 X eT
      refine own_new X hx hby hZ hown (hw _ (List.mem_of_getElem? (i := 14) rfl)) (hw _ (List.mem_of_getElem? (i := 15) rfl)) (hw _ (List.mem_of_getElem? (i := 16) rfl)) eT at_61 (by decide) (by decide) 64 rfl ?_
      intro T61 h61 b61 gb61 X eT Ex A D
      have g_b61 : n0 ≤ b61 := by rw [gb61]; exact Zs
      have sz_b61 : h0.size ≤ b61 := by rw [gb61]; exact K.1
      have ne_b40_b61 : b40 ≠ b61 := Nat.ne_of_lt (by rw [gb61]; exact A_b40.lt)
      have ne_b54_b61 : b54 ≠ b61 := Nat.ne_of_lt (by rw [gb61]; exact E_b54.lt)
      have ne_b30rr_b61 : b30rr ≠ b61 := Nat.ne_of_lt (by rw [gb61]; exact E_b30rr.lt)
      have hk := Nat.le_trans hk Ex.1
      have E_b30rr := E_b30rr.ext Ex
      have A_b40 := A_b40.ext Ex
      have E_b40 := E_b40.ext Ex
      have U_b54 := Unt.ext Ex U_b54
      have E_b54 := E_b54.ext Ex
      have F_cause_b54 := F_cause_b54.ext Ex
      have F_stackTrace_b54 := F_stackTrace_b54.ext Ex
      have F_suppressedExceptions_b54 := F_suppressedExceptions_b54.ext Ex
      have F_detailMessage_b54 := F_detailMessage_b54.ext Ex
      have F_backtrace_b54 := F_backtrace_b54.ext Ex
      have F_depth_b54 := F_depth_b54.ext Ex
      have F_errorCode_b54 := F_errorCode_b54.ext Ex
      have E_b61 := A
      have F_coder_b61 : Fld Z h61 b61 "java/lang/String" "coder" "B" (.int (0 : Int32)) := D (Or.inr (hw _ (List.mem_of_getElem? (i := 40) rfl))) (ty := .byte) (by decide)
      have F_value_b61 : Fld Z h61 b61 "java/lang/String" "value" "[B" .null := D (Or.inr (hw _ (List.mem_of_getElem? (i := 42) rfl))) (ty := (.array .byte)) (by decide)
      have K := K.ext Ex
      have Zs := Nat.le_trans Zs Ex.1
      refine own_dup X hx hby at_64 rfl 65 rfl ?_
      refine own_aload X hx hby (.ref b40) at_65 rfl rfl 67 rfl ?_
      refine own_callC X hx hby hZ (st := [(.ref b61), (.ref u_INVALID_PARAMETER_VALUE), (.ref b54), (.ref b54)]) [(.ref b40)] rfl rfl hown (hw _ (List.mem_of_getElem? (i := 17) rfl)) (hw _ (List.mem_of_getElem? (i := 18) rfl)) (hw _ (List.mem_of_getElem? (i := 16) rfl)) (hw _ (List.mem_of_getElem? (i := 19) rfl)) (by decide) at_67 (rm2 l Z a0 hw b61 b40 (updI (fun _ => (0 : Int32)) 0 (nar .char ((p3 &&& (255 : Int32)).toUInt32.toUInt16.toUInt32.toInt32))) (0 : Int32) .null u_COMPACT_STRINGS h61 n0 Zs hcs (own_ch _) A_b40 E_b40 E_b61 F_coder_b61 F_value_b61 g_b61 (S_COMPACT_STRINGS.ext (own_ext0 K)) g_b40) eT pd_13 rfl (by rw [hml]; rfl) (by decide) 4 rfl (by decide) (by decide) (by decide) 70 rfl ?_
      intro T67 L9 v9 X hQ
      obtain ⟨h67, eT⟩ : ∃ z, T67.heap = z := ⟨_, rfl⟩
      rw [eT] at hQ
      have lt_b30rr := E_b30rr.lt
      have lt_b40 := A_b40.lt
      have lt_b54 := E_b54.lt
      have lt_b61 := E_b61.lt
      obtain ⟨b67b6b36b1, rfl, N9, Kc, hs_b67b6b36b1, E_b61, F_coder_b61, F_value_b61, A_b67b6b36b1, E_b67b6b36b1⟩ := hQ
      have g_b67b6b36b1 : n0 ≤ b67b6b36b1 := Nat.le_trans Zs hs_b67b6b36b1
      have sz_b67b6b36b1 : h0.size ≤ b67b6b36b1 := Nat.le_trans K.1 hs_b67b6b36b1
      have ne_b30rr_b67b6b36b1 : b30rr ≠ b67b6b36b1 := Nat.ne_of_lt (Nat.lt_of_lt_of_le lt_b30rr hs_b67b6b36b1)
      have ne_b40_b67b6b36b1 : b40 ≠ b67b6b36b1 := Nat.ne_of_lt (Nat.lt_of_lt_of_le lt_b40 hs_b67b6b36b1)
      have ne_b54_b67b6b36b1 : b54 ≠ b67b6b36b1 := Nat.ne_of_lt (Nat.lt_of_lt_of_le lt_b54 hs_b67b6b36b1)
      have ne_b61_b67b6b36b1 : b61 ≠ b67b6b36b1 := Nat.ne_of_lt (Nat.lt_of_lt_of_le lt_b61 hs_b67b6b36b1)
      have hk := Nat.le_trans hk Kc.1
      have E_b30rr := E_b30rr.keep Kc
      have A_b40 := A_b40.keep Kc (ninS ne_b40_b61 nin0)
      have E_b40 := E_b40.keep Kc
      have U_b54 := Unt.keep Kc (ninS ne_b54_b61 nin0) U_b54
      have E_b54 := E_b54.keep Kc
      have F_cause_b54 := F_cause_b54.keep Kc (ninS ne_b54_b61 nin0)
      have F_stackTrace_b54 := F_stackTrace_b54.keep Kc (ninS ne_b54_b61 nin0)
      have F_suppressedExceptions_b54 := F_suppressedExceptions_b54.keep Kc (ninS ne_b54_b61 nin0)
      have F_detailMessage_b54 := F_detailMessage_b54.keep Kc (ninS ne_b54_b61 nin0)
      have F_backtrace_b54 := F_backtrace_b54.keep Kc (ninS ne_b54_b61 nin0)
      have F_depth_b54 := F_depth_b54.keep Kc (ninS ne_b54_b61 nin0)
      have F_errorCode_b54 := F_errorCode_b54.keep Kc (ninS ne_b54_b61 nin0)
      have K := K.trans Kc (allS (Or.inr sz_b61) all0)
      have Zs := Nat.le_trans Zs Kc.1
      have N := Fr.app N N9
      show Go p e below _ T67 (mkF m 70 #[.val (.int p1), .val (.int p2), .val (.int p3), .val (.int (1 : Int32)), .val (.int (1 : Int32)), .val (.ref b30rr), .val (.ref b40), .unset, .unset, .unset, .unset, .unset, .unset] [(.ref b61), (.ref u_INVALID_PARAMETER_VALUE), (.ref b54), (.ref b54)])
      refine own_callCK X hx hby hZ (st := [(.ref b54)]) [(.ref u_INVALID_PARAMETER_VALUE), (.ref b61)] rfl rfl hown hS hk hTK hBelow (hw _ (List.mem_of_getElem? (i := 43) rfl)) (hw _ (List.mem_of_getElem? (i := 44) rfl)) (hw _ (List.mem_of_getElem? (i := 10) rfl)) (hw _ (List.mem_of_getElem? (i := 45) rfl)) (by decide) at_70 (rm8 l Z a0 hw b54 u_INVALID_PARAMETER_VALUE b61 .null .null .null .null (0 : Int32) .null u_UNASSIGNED_STACK u_SUPPRESSED_SENTINEL h67 n0 Zs hst hU hV U_b54 E_b54 F_cause_b54 F_stackTrace_b54 F_suppressedExceptions_b54 F_detailMessage_b54 F_backtrace_b54 F_depth_b54 F_errorCode_b54 g_b54 (S_UNASSIGNED_STACK.ext (own_ext0 K)) (S_SUPPRESSED_SENTINEL.ext (own_ext0 K)) (E_u_INVALID_PARAMETER_VALUE.ext (own_ext0 K))) eT pd_7 rfl (by rw [hml]; rfl) (by decide) 1 rfl (by decide) (by decide) (by decide) 73 rfl ?_
      intro T70 L9 v9 vm70 X hS hZ hown hQ
      obtain ⟨h70, eT⟩ : ∃ z, T70.heap = z := ⟨_, rfl⟩
      rw [eT] at hQ
      obtain ⟨rfl, N9, Kc, E_b54⟩ := hQ
      have E_b30rr := E_b30rr.keep Kc
      have A_b40 := A_b40.keep Kc (ninS ne_b40_b54 nin0)
      have E_b40 := E_b40.keep Kc
      have E_b61 := E_b61.keep Kc
      have F_coder_b61 := F_coder_b61.keep Kc (ninS (Ne.symm ne_b54_b61) nin0)
      have F_value_b61 := F_value_b61.keep Kc (ninS (Ne.symm ne_b54_b61) nin0)
      have A_b67b6b36b1 := A_b67b6b36b1.keep Kc (ninS (Ne.symm ne_b54_b67b6b36b1) nin0)
      have E_b67b6b36b1 := E_b67b6b36b1.keep Kc
      have hk : T70.heap.size ≤ h70.size := by rw [eT]; exact Nat.le_refl _
      have K := K.trans Kc (allS (Or.inr sz_b54) all0)
      have Zs := Nat.le_trans Zs Kc.1
      have N := Fr.app N N9
      show Go p e below _ T70 (mkF m 73 #[.val (.int p1), .val (.int p2), .val (.int p3), .val (.int (1 : Int32)), .val (.int (1 : Int32)), .val (.ref b30rr), .val (.ref b40), .unset, .unset, .unset, .unset, .unset, .unset] [(.ref b54)])
      refine own_astore X hx hby at_73 rfl (l' := #[.val (.int p1), .val (.int p2), .val (.int p3), .val (.int (1 : Int32)), .val (.int (1 : Int32)), .val (.ref b30rr), .val (.ref b40), .val (.ref b54), .unset, .unset, .unset, .unset, .unset]) rfl 75 rfl ?_
      refine own_iload X hx hby (1 : Int32) at_75 rfl 77 rfl ?_
      have c77 : ¬ (1 : Int32) = (0 : Int32) := by decide
      refine own_if_eq X hx hby at_77 85 80 (by decide) rfl (fun q => absurd q c77) (fun _ => ?_)
      refine own_aload X hx hby (.ref b54) at_80 rfl rfl 82 rfl ?_
      refine own_goto X hx hby at_82 86 (by decide) ?_
      refine own_astore X hx hby at_86 rfl (l' := #[.val (.int p1), .val (.int p2), .val (.int p3), .val (.int (1 : Int32)), .val (.int (1 : Int32)), .val (.ref b30rr), .val (.ref b40), .val (.ref b54), .val (.ref b54), .unset, .unset, .unset, .unset]) rfl 88 rfl ?_
      refine own_new X hx hby hZ hown (hw _ (List.mem_of_getElem? (i := 111) rfl)) (hw _ (List.mem_of_getElem? (i := 112) rfl)) (hw _ (List.mem_of_getElem? (i := 113) rfl)) eT at_88 (by decide) (by decide) 91 rfl ?_
      intro T88 h88 b88 gb88 X eT Ex A D
      have g_b88 : n0 ≤ b88 := by rw [gb88]; exact Zs
      have sz_b88 : h0.size ≤ b88 := by rw [gb88]; exact K.1
      have ne_b40_b88 : b40 ≠ b88 := Nat.ne_of_lt (by rw [gb88]; exact A_b40.lt)
      have ne_b67b6b36b1_b88 : b67b6b36b1 ≠ b88 := Nat.ne_of_lt (by rw [gb88]; exact A_b67b6b36b1.lt)
      have ne_b54_b88 : b54 ≠ b88 := Nat.ne_of_lt (by rw [gb88]; exact E_b54.lt)
      have ne_b61_b88 : b61 ≠ b88 := Nat.ne_of_lt (by rw [gb88]; exact E_b61.lt)
      have ne_b30rr_b88 : b30rr ≠ b88 := Nat.ne_of_lt (by rw [gb88]; exact E_b30rr.lt)
      have hk := Nat.le_trans hk Ex.1
      have E_b30rr := E_b30rr.ext Ex
      have A_b40 := A_b40.ext Ex
      have E_b40 := E_b40.ext Ex
      have E_b54 := E_b54.ext Ex
      have E_b61 := E_b61.ext Ex
      have F_coder_b61 := F_coder_b61.ext Ex
      have F_value_b61 := F_value_b61.ext Ex
      have A_b67b6b36b1 := A_b67b6b36b1.ext Ex
      have E_b67b6b36b1 := E_b67b6b36b1.ext Ex
      have E_b88 := A
      have F_value_b88 : Fld Z h88 b88 "com/example/inflight/inflight/Outcome" "value" "Ljava/lang/Object;" .null := D (Or.inr (hw _ (List.mem_of_getElem? (i := 124) rfl))) (ty := (.object "java/lang/Object")) (by decide)
      have F_failure_b88 : Fld Z h88 b88 "com/example/inflight/inflight/Outcome" "failure" "Lcom/example/inflight/inflight/ApiException;" .null := D (Or.inr (hw _ (List.mem_of_getElem? (i := 126) rfl))) (ty := (.object "com/example/inflight/inflight/ApiException")) (by decide)
      have K := K.ext Ex
      have Zs := Nat.le_trans Zs Ex.1
      refine own_dup X hx hby at_91 rfl 92 rfl ?_
      refine own_aload X hx hby (.ref b30rr) at_92 rfl rfl 94 rfl ?_
      refine own_aload X hx hby (.ref b54) at_94 rfl rfl 96 rfl ?_
      refine own_callC X hx hby hZ (st := [(.ref b88)]) [(.ref b30rr), (.ref b54)] rfl rfl hown (hw _ (List.mem_of_getElem? (i := 114) rfl)) (hw _ (List.mem_of_getElem? (i := 115) rfl)) (hw _ (List.mem_of_getElem? (i := 113) rfl)) (hw _ (List.mem_of_getElem? (i := 116) rfl)) (by decide) at_96 (rm15_rr l Z a0 hw b88 b30rr b54 .null .null h88 n0 Zs E_b88 F_value_b88 F_failure_b88 g_b88) eT pd_9 rfl (by rw [hml]; rfl) (by decide) 1 rfl (by decide) (by decide) (by decide) 99 rfl ?_
      intro T96 L9 v9 X hQ
      obtain ⟨h96, eT⟩ : ∃ z, T96.heap = z := ⟨_, rfl⟩
      rw [eT] at hQ
      obtain ⟨rfl, N9, Kc, E_b88, F_value_b88, F_failure_b88⟩ := hQ
      have hk := Nat.le_trans hk Kc.1
      have E_b30rr := E_b30rr.keep Kc
      have A_b40 := A_b40.keep Kc (ninS ne_b40_b88 nin0)
      have E_b40 := E_b40.keep Kc
      have E_b54 := E_b54.keep Kc
      have E_b61 := E_b61.keep Kc
      have F_coder_b61 := F_coder_b61.keep Kc (ninS ne_b61_b88 nin0)
      have F_value_b61 := F_value_b61.keep Kc (ninS ne_b61_b88 nin0)
      have A_b67b6b36b1 := A_b67b6b36b1.keep Kc (ninS ne_b67b6b36b1_b88 nin0)
      have E_b67b6b36b1 := E_b67b6b36b1.keep Kc
      have K := K.trans Kc (allS (Or.inr sz_b88) all0)
      have Zs := Nat.le_trans Zs Kc.1
      have N := Fr.app N N9
      show Go p e below _ T96 (mkF m 99 #[.val (.int p1), .val (.int p2), .val (.int p3), .val (.int (1 : Int32)), .val (.int (1 : Int32)), .val (.ref b30rr), .val (.ref b40), .val (.ref b54), .val (.ref b54), .unset, .unset, .unset, .unset] [(.ref b88)])
      refine own_astore X hx hby at_99 rfl (l' := #[.val (.int p1), .val (.int p2), .val (.int p3), .val (.int (1 : Int32)), .val (.int (1 : Int32)), .val (.ref b30rr), .val (.ref b40), .val (.ref b54), .val (.ref b54), .val (.ref b88), .unset, .unset, .unset]) rfl 101 rfl ?_
      refine own_aload X hx hby (.ref b88) at_101 rfl rfl 103 rfl ?_
      refine own_callV X hx hby hZ (st := []) [] rfl hown (hw _ (List.mem_of_getElem? (i := 127) rfl)) (hw _ (List.mem_of_getElem? (i := 128) rfl)) (hw _ (List.mem_of_getElem? (i := 130) rfl)) (hw _ (List.mem_of_getElem? (i := 129) rfl)) (hw _ (List.mem_of_getElem? (i := 113) rfl)) (hw _ (List.mem_of_getElem? (i := 131) rfl)) E_b88 (by decide) at_103 (rm17_r l Z a0 hw b88 b54 h96 n0 Zs F_failure_b88) eT pd_2 rfl (by rw [hml]; rfl) (by decide) 0 rfl (by decide) (by decide) (by decide) 106 rfl ?_
      intro T103 L9 v9 X hQ
      obtain ⟨rfl, N9, eT⟩ := hQ
      have N := Fr.app N N9
      show Go p e below _ T103 (mkF m 106 #[.val (.int p1), .val (.int p2), .val (.int p3), .val (.int (1 : Int32)), .val (.int (1 : Int32)), .val (.ref b30rr), .val (.ref b40), .val (.ref b54), .val (.ref b54), .val (.ref b88), .unset, .unset, .unset] [(.int (1 : Int32))])
      refine own_iload X hx hby (1 : Int32) at_106 rfl 108 rfl ?_
      have c108 : (1 : Int32) = (1 : Int32) := by decide
      refine own_icmp_ne X hx hby at_108 115 111 (by decide) rfl (fun q => absurd c108 q) (fun _ => ?_)
      refine own_iconst X hx hby (1 : Int32) at_111 rfl 112 rfl ?_
      refine own_goto X hx hby at_112 116 (by decide) ?_
      refine own_istore X hx hby at_116 rfl (l' := #[.val (.int p1), .val (.int p2), .val (.int p3), .val (.int (1 : Int32)), .val (.int (1 : Int32)), .val (.ref b30rr), .val (.ref b40), .val (.ref b54), .val (.ref b54), .val (.ref b88), .val (.int (1 : Int32)), .unset, .unset]) rfl 118 rfl ?_
      refine own_aload X hx hby (.ref b30rr) at_118 rfl rfl 120 rfl ?_
      refine own_callS X hx hby hZ (st := []) [(.ref b30rr)] rfl hown (hw _ (List.mem_of_getElem? (i := 132) rfl)) (hw _ (List.mem_of_getElem? (i := 133) rfl)) (hw _ (List.mem_of_getElem? (i := 113) rfl)) (hw _ (List.mem_of_getElem? (i := 134) rfl)) (by decide) at_120 (rm18_r l Z a0 hw b30rr h96 n0 Zs ) eT pd_8 rfl (by rw [hml]; rfl) (by decide) 0 rfl (by decide) (by decide) (by decide) 123 rfl ?_
      intro T120 L9 v9 X hQ
      obtain ⟨h120, eT⟩ : ∃ z, T120.heap = z := ⟨_, rfl⟩
      rw [eT] at hQ
      have lt_b30rr := E_b30rr.lt
      have lt_b40 := A_b40.lt
      have lt_b54 := E_b54.lt
      have lt_b61 := E_b61.lt
      have lt_b67b6b36b1 := A_b67b6b36b1.lt
      have lt_b88 := E_b88.lt
      obtain ⟨b120b0, rfl, N9, Kc, hs_b120b0, E_b120b0, F_value_b120b0, F_failure_b120b0⟩ := hQ
      have g_b120b0 : n0 ≤ b120b0 := Nat.le_trans Zs hs_b120b0
      have sz_b120b0 : h0.size ≤ b120b0 := Nat.le_trans K.1 hs_b120b0
      have ne_b30rr_b120b0 : b30rr ≠ b120b0 := Nat.ne_of_lt (Nat.lt_of_lt_of_le lt_b30rr hs_b120b0)
      have ne_b40_b120b0 : b40 ≠ b120b0 := Nat.ne_of_lt (Nat.lt_of_lt_of_le lt_b40 hs_b120b0)
      have ne_b54_b120b0 : b54 ≠ b120b0 := Nat.ne_of_lt (Nat.lt_of_lt_of_le lt_b54 hs_b120b0)
      have ne_b61_b120b0 : b61 ≠ b120b0 := Nat.ne_of_lt (Nat.lt_of_lt_of_le lt_b61 hs_b120b0)
      have ne_b67b6b36b1_b120b0 : b67b6b36b1 ≠ b120b0 := Nat.ne_of_lt (Nat.lt_of_lt_of_le lt_b67b6b36b1 hs_b120b0)
      have ne_b88_b120b0 : b88 ≠ b120b0 := Nat.ne_of_lt (Nat.lt_of_lt_of_le lt_b88 hs_b120b0)
      have hk := Nat.le_trans hk Kc.1
      have E_b30rr := E_b30rr.keep Kc
      have A_b40 := A_b40.keep Kc nin0
      have E_b40 := E_b40.keep Kc
      have E_b54 := E_b54.keep Kc
      have E_b61 := E_b61.keep Kc
      have F_coder_b61 := F_coder_b61.keep Kc nin0
      have F_value_b61 := F_value_b61.keep Kc nin0
      have A_b67b6b36b1 := A_b67b6b36b1.keep Kc nin0
      have E_b67b6b36b1 := E_b67b6b36b1.keep Kc
      have E_b88 := E_b88.keep Kc
      have F_value_b88 := F_value_b88.keep Kc nin0
      have F_failure_b88 := F_failure_b88.keep Kc nin0
      have K := K.trans Kc all0
      have Zs := Nat.le_trans Zs Kc.1
      have N := Fr.app N N9
      show Go p e below _ T120 (mkF m 123 #[.val (.int p1), .val (.int p2), .val (.int p3), .val (.int (1 : Int32)), .val (.int (1 : Int32)), .val (.ref b30rr), .val (.ref b40), .val (.ref b54), .val (.ref b54), .val (.ref b88), .val (.int (1 : Int32)), .unset, .unset] [(.ref b120b0)])
      refine own_astore X hx hby at_123 rfl (l' := #[.val (.int p1), .val (.int p2), .val (.int p3), .val (.int (1 : Int32)), .val (.int (1 : Int32)), .val (.ref b30rr), .val (.ref b40), .val (.ref b54), .val (.ref b54), .val (.ref b88), .val (.int (1 : Int32)), .val (.ref b120b0), .unset]) rfl 125 rfl ?_
      refine own_iload X hx hby (1 : Int32) at_125 rfl 127 rfl ?_
      have c127 : ¬ (1 : Int32) = (0 : Int32) := by decide
      refine own_if_eq X hx hby at_127 142 130 (by decide) rfl (fun q => absurd q c127) (fun _ => ?_)
      refine own_aload X hx hby (.ref b120b0) at_130 rfl rfl 132 rfl ?_
      refine own_callV X hx hby hZ (st := []) [] rfl hown (hw _ (List.mem_of_getElem? (i := 127) rfl)) (hw _ (List.mem_of_getElem? (i := 128) rfl)) (hw _ (List.mem_of_getElem? (i := 130) rfl)) (hw _ (List.mem_of_getElem? (i := 129) rfl)) (hw _ (List.mem_of_getElem? (i := 113) rfl)) (hw _ (List.mem_of_getElem? (i := 131) rfl)) E_b120b0 (by decide) at_132 (rm17_n l Z a0 hw b120b0 h120 n0 Zs F_failure_b120b0) eT pd_2 rfl (by rw [hml]; rfl) (by decide) 0 rfl (by decide) (by decide) (by decide) 135 rfl ?_
      intro T132 L9 v9 X hQ
      obtain ⟨rfl, N9, eT⟩ := hQ
      have N := Fr.app N N9
      show Go p e below _ T132 (mkF m 135 #[.val (.int p1), .val (.int p2), .val (.int p3), .val (.int (1 : Int32)), .val (.int (1 : Int32)), .val (.ref b30rr), .val (.ref b40), .val (.ref b54), .val (.ref b54), .val (.ref b88), .val (.int (1 : Int32)), .val (.ref b120b0), .unset] [(.int (0 : Int32))])
      have c135 : (0 : Int32) = (0 : Int32) := by decide
      refine own_if_ne X hx hby at_135 142 138 (by decide) rfl (fun q => absurd c135 q) (fun _ => ?_)
      refine own_iconst X hx hby (1 : Int32) at_138 rfl 139 rfl ?_
      refine own_goto X hx hby at_139 143 (by decide) ?_
      refine own_istore X hx hby at_143 rfl (l' := #[.val (.int p1), .val (.int p2), .val (.int p3), .val (.int (1 : Int32)), .val (.int (1 : Int32)), .val (.ref b30rr), .val (.ref b40), .val (.ref b54), .val (.ref b54), .val (.ref b88), .val (.int (1 : Int32)), .val (.ref b120b0), .unset]) rfl 145 rfl ?_
      refine own_aload X hx hby (.ref b54) at_145 rfl rfl 147 rfl ?_
      refine own_callSW X hx hby hZ (st := []) [(.ref b54)] rfl hown hS hk (hw _ (List.mem_of_getElem? (i := 137) rfl)) (hw _ (List.mem_of_getElem? (i := 138) rfl)) (hw _ (List.mem_of_getElem? (i := 113) rfl)) (hw _ (List.mem_of_getElem? (i := 139) rfl)) (by decide) at_147 (rm19 l Z a0 hw b54 h120 n0 Zs E_b54) eT pd_6 rfl (by rw [hml]; rfl) (by decide) 0 rfl (by decide) (by decide) (by decide) 150 rfl ?_
      intro T147 L9 v9 vm147 X hS hZ hown hQ
      obtain ⟨h147, eT⟩ : ∃ z, T147.heap = z := ⟨_, rfl⟩
      rw [eT] at hQ
      have lt_b120b0 := E_b120b0.lt
      have lt_b30rr := E_b30rr.lt
      have lt_b40 := A_b40.lt
      have lt_b54 := E_b54.lt
      have lt_b61 := E_b61.lt
      have lt_b67b6b36b1 := A_b67b6b36b1.lt
      have lt_b88 := E_b88.lt
      obtain ⟨b147b0, rfl, N9, Kc, hs_b147b0, E_b147b0, F_value_b147b0, F_failure_b147b0⟩ := hQ
      have g_b147b0 : n0 ≤ b147b0 := Nat.le_trans Zs hs_b147b0
      have sz_b147b0 : h0.size ≤ b147b0 := Nat.le_trans K.1 hs_b147b0
      have ne_b120b0_b147b0 : b120b0 ≠ b147b0 := Nat.ne_of_lt (Nat.lt_of_lt_of_le lt_b120b0 hs_b147b0)
      have ne_b30rr_b147b0 : b30rr ≠ b147b0 := Nat.ne_of_lt (Nat.lt_of_lt_of_le lt_b30rr hs_b147b0)
      have ne_b40_b147b0 : b40 ≠ b147b0 := Nat.ne_of_lt (Nat.lt_of_lt_of_le lt_b40 hs_b147b0)
      have ne_b54_b147b0 : b54 ≠ b147b0 := Nat.ne_of_lt (Nat.lt_of_lt_of_le lt_b54 hs_b147b0)
      have ne_b61_b147b0 : b61 ≠ b147b0 := Nat.ne_of_lt (Nat.lt_of_lt_of_le lt_b61 hs_b147b0)
      have ne_b67b6b36b1_b147b0 : b67b6b36b1 ≠ b147b0 := Nat.ne_of_lt (Nat.lt_of_lt_of_le lt_b67b6b36b1 hs_b147b0)
      have ne_b88_b147b0 : b88 ≠ b147b0 := Nat.ne_of_lt (Nat.lt_of_lt_of_le lt_b88 hs_b147b0)
      have E_b30rr := E_b30rr.keep Kc
      have A_b40 := A_b40.keep Kc nin0
      have E_b40 := E_b40.keep Kc
      have E_b54 := E_b54.keep Kc
      have E_b61 := E_b61.keep Kc
      have F_coder_b61 := F_coder_b61.keep Kc nin0
      have F_value_b61 := F_value_b61.keep Kc nin0
      have A_b67b6b36b1 := A_b67b6b36b1.keep Kc nin0
      have E_b67b6b36b1 := E_b67b6b36b1.keep Kc
      have E_b88 := E_b88.keep Kc
      have F_value_b88 := F_value_b88.keep Kc nin0
      have F_failure_b88 := F_failure_b88.keep Kc nin0
      have E_b120b0 := E_b120b0.keep Kc
      have F_value_b120b0 := F_value_b120b0.keep Kc nin0
      have F_failure_b120b0 := F_failure_b120b0.keep Kc nin0
      have hk : T147.heap.size ≤ h147.size := by rw [eT]; exact Nat.le_refl _
      have K := K.trans Kc all0
      have Zs := Nat.le_trans Zs Kc.1
      have N := Fr.app N N9
      show Go p e below _ T147 (mkF m 150 #[.val (.int p1), .val (.int p2), .val (.int p3), .val (.int (1 : Int32)), .val (.int (1 : Int32)), .val (.ref b30rr), .val (.ref b40), .val (.ref b54), .val (.ref b54), .val (.ref b88), .val (.int (1 : Int32)), .val (.ref b120b0), .unset] [(.ref b147b0)])
      refine own_astore X hx hby at_150 rfl (l' := #[.val (.int p1), .val (.int p2), .val (.int p3), .val (.int (1 : Int32)), .val (.int (1 : Int32)), .val (.ref b30rr), .val (.ref b40), .val (.ref b54), .val (.ref b54), .val (.ref b88), .val (.int (1 : Int32)), .val (.ref b120b0), .val (.ref b147b0)]) rfl 152 rfl ?_
      refine own_iload X hx hby (1 : Int32) at_152 rfl 154 rfl ?_
      have c154 : ¬ (1 : Int32) = (0 : Int32) := by decide
      refine own_if_eq X hx hby at_154 169 157 (by decide) rfl (fun q => absurd q c154) (fun _ => ?_)
      refine own_aload X hx hby (.ref b147b0) at_157 rfl rfl 159 rfl ?_
      refine own_callV X hx hby hZ (st := []) [] rfl hown (hw _ (List.mem_of_getElem? (i := 127) rfl)) (hw _ (List.mem_of_getElem? (i := 128) rfl)) (hw _ (List.mem_of_getElem? (i := 130) rfl)) (hw _ (List.mem_of_getElem? (i := 129) rfl)) (hw _ (List.mem_of_getElem? (i := 113) rfl)) (hw _ (List.mem_of_getElem? (i := 131) rfl)) E_b147b0 (by decide) at_159 (rm17_r l Z a0 hw b147b0 b54 h147 n0 Zs F_failure_b147b0) eT pd_2 rfl (by rw [hml]; rfl) (by decide) 0 rfl (by decide) (by decide) (by decide) 162 rfl ?_
      intro T159 L9 v9 X hQ
      obtain ⟨rfl, N9, eT⟩ := hQ
      have N := Fr.app N N9
      show Go p e below _ T159 (mkF m 162 #[.val (.int p1), .val (.int p2), .val (.int p3), .val (.int (1 : Int32)), .val (.int (1 : Int32)), .val (.ref b30rr), .val (.ref b40), .val (.ref b54), .val (.ref b54), .val (.ref b88), .val (.int (1 : Int32)), .val (.ref b120b0), .val (.ref b147b0)] [(.int (1 : Int32))])
      have c162 : ¬ (1 : Int32) = (0 : Int32) := by decide
      refine own_if_eq X hx hby at_162 169 165 (by decide) rfl (fun q => absurd q c162) (fun _ => ?_)
      refine own_iconst X hx hby (1 : Int32) at_165 rfl 166 rfl ?_
      refine own_goto X hx hby at_166 170 (by decide) ?_
      refine own_istore X hx hby at_170 rfl (l' := #[.val (.int p1), .val (.int p2), .val (.int p3), .val (.int (1 : Int32)), .val (.int (1 : Int32)), .val (.ref b30rr), .val (.ref b40), .val (.ref b54), .val (.ref b54), .val (.ref b88), .val (.int (1 : Int32)), .val (.ref b120b0), .val (.ref b147b0)]) rfl 172 rfl ?_
      refine own_iload X hx hby (1 : Int32) at_172 rfl 174 rfl ?_
      refine own_retNW X hx hby hS (by rw [eT]; exact hk) hret hlk (t := .boolean) (z' := (1 : Int32)) (by simp) at_174 (by decide) (by decide) rfl ?_
      rw [eT]
      exact ⟨rfl, N⟩
theorem own_cache {s : State} {args : Array Value} {t : Term} {u : Addr} {cl : Cell} (hfit : Fit s) (ev : ∀ idx, t.eval args s none idx s = some (.ref u)) (A : Arr s s.heap u cl (.object "java/lang/Integer")) (hl : (Jvm.Cond.eq (.length t) (.int 256)).before args s = true)
    {CC : Jvm.Cond} (ha : (Jvm.Cond.all t (.and (.exactly (.elem t (.index 0)) "java/lang/Integer") CC)).before args s = true) :
    ∃ fc : Nat → Value, Afn s s.heap u (.object "java/lang/Integer") 256 fc ∧ ∀ i, i < 256 → ∃ r : Addr, fc i = .ref r ∧ Exa s s.heap r "java/lang/Integer" := by
  obtain ⟨hb, hz⟩ := Jvm.Free.IntBox.length_fwd hl (ev []) A.1 A.2.1 A.2.2
  have hsz : cl.slots.size = 256 := by
    have q := len_toInt hb
    rw [hz] at q
    simp only [Int32.reduceToInt] at q
    omega
  have hat := A.fin (Vm.Alike.refl _)
  have hall := Cond.all_elim (ev []) hat (Cond.before_iff.mp ha)
  have key : ∀ i, i < 256 → ∃ r : Addr, cl.slots[i]? = some (.ref r) ∧ Exa s s.heap r "java/lang/Integer" := by
    intro i hi
    have h1 := (and_e (hall i (by rw [hsz]; exact hi))).1
    obtain ⟨r, hr⟩ := exa_v h1
    have hE : Exa s s.heap r "java/lang/Integer" := exa_at hr h1
    obtain ⟨hnn, hback⟩ := Jvm.Free.IntBox.place_nonneg i hi
    have e0 : (Term.elem t (.index 0)).eval args s none [i] s = cl.slots[i]? := by simp [Term.eval, ev, hnn, hat, hback]
    exact ⟨r, e0 ▸ hr, hE⟩
  refine ⟨fun i => cl.slots[i]?.getD .null, ⟨cl, A, hsz, fun i hi => ?_⟩, fun i hi => ?_⟩
  · obtain ⟨r, h1, -⟩ := key i hi
    refine ⟨?_, ?_⟩
    · show cl.slots[i]? = some (cl.slots[i]?.getD .null)
      rw [h1]; rfl
    · show fits _ (cl.slots[i]?.getD .null) = true
      rw [h1]; rfl
  · obtain ⟨r, h1, h2⟩ := key i hi
    exact ⟨r, by show cl.slots[i]?.getD .null = _; rw [h1]; rfl, h2⟩
theorem own_csN {args : Array Value} {s : State} {u : Int32} (ev : (Term.static "java/lang/String" "COMPACT_STRINGS" "Z").eval args s none [] s = some (.int u)) (h : (Jvm.Cond.not (.eq (.static "java/lang/String" "COMPACT_STRINGS" "Z") (.int 0))).before args s = true) : ¬ u = (0 : Int32) := by
  intro q
  subst q
  have h1 := Cond.before_iff.mp h
  simp [Cond.value, ev, Term.int_eval] at h1
set_option maxRecDepth 65536 in
set_option maxHeartbeats 40000000 in
theorem comes_1 {Post : Tables → Env → Array Value → State → Outcome → State → Prop} (hpost : ∀ tb e args s v u, (limb_1_1.after args s (.returned v) u = true ∧ limb_1_2.after args s (.returned v) u = true ∧ True) → ReturnedEndW s (.returned v) u (Jvm.fieldLocs frame_1_writes args s ++ Jvm.arrayLocs frame_1_arrays args s ++ Jvm.staticLocs frame_1_statics s) 32 7680 → Post tb e args s (.returned v) u) :
    ArmFor flags0 classFile x code maxLocals ret World_1 tables_1 room_1 Calls_1 rest_1 Pre_1 Post := by
  intro l hfl _ _ p e ha hc hk s m args below hf hA hF happ hP
  obtain ⟨hcalls, hrest, hpre⟩ := hP
  obtain ⟨-, -, -, hnamed, -, -, -, hat⟩ := (Spec.applies_iff hf).mp happ
  obtain ⟨hg, hn⟩ := and_e (Cond.before_iff.mp (show (Jvm.Cond.and given_1 narrow_1).before args s = true from hpre))
  obtain ⟨gg1, gg2⟩ := and_e hg
  obtain ⟨gg3, gg4⟩ := and_e gg2
  obtain ⟨gg5, gg6⟩ := and_e gg4
  obtain ⟨w0, w1, w2, rfl⟩ : ∃ w0 w1 w2 : Value, args = #[w0, w1, w2] := by
    have hs : args.size = 3 := by simpa [Cond.value, given_1] using gg1
    obtain ⟨L⟩ := args
    match L, hs with
    | [w0, w1, w2], _ => exact ⟨w0, w1, w2, rfl⟩
  have hw := fun d (hd : d ∈ tables_1) => atoms_spec (ws := Jvm.Cond.code x code maxLocals ret :: tables_1) hat d (List.mem_cons_of_mem _ hd)
  have hfit : Fit s := fun {y c} hc i hi => by
    obtain ⟨ha, rfl⟩ := Array.getElem?_eq_some_iff.mp hc
    have q := List.all_eq_true.mp ((Array.all_eq_true_iff_forall_mem.mp hF) _ (Array.getElem_mem ha)) i (List.mem_range.mpr hi)
    simpa [Array.getElem?_eq_getElem hi] using q
  obtain ⟨hsets, hown0⟩ := atoms_of _ (rest_1_c_eq ▸ (show rest_1_c.before _ s = true from hrest))
  have hr0 := Cond.before_iff.mp hown0
  obtain ⟨i0, ei0⟩ := is_v gg3
  obtain rfl : w0 = (.int i0) := Option.some.inj ei0
  obtain ⟨i1, ei1⟩ := is_v gg5
  obtain rfl : w1 = (.int i1) := Option.some.inj ei1
  obtain ⟨i2, ei2⟩ := is_v gg6
  obtain rfl : w2 = (.int i2) := Option.some.inj ei2
  obtain ⟨u_INVALID_PARAMETER_VALUE, ev_INVALID_PARAMETER_VALUE⟩ := exa_v hn
  have E_u_INVALID_PARAMETER_VALUE := Exa.start ev_INVALID_PARAMETER_VALUE hn
  have S_INVALID_PARAMETER_VALUE := Sta.start ev_INVALID_PARAMETER_VALUE (Or.inr ⟨(hw _ (List.mem_of_getElem? (i := 12) rfl)), (hw _ (List.mem_of_getElem? (i := 13) rfl))⟩)
  have evH : (Jvm.Term.static "java/lang/Integer$IntegerCache" "high" "I").eval _ s none [] s = some (.int 127) := Cond.eq_int (show (Jvm.Cond.eq (Jvm.Term.static "java/lang/Integer$IntegerCache" "high" "I") (.int 127)).holds _ s none s [] = true from (hsets _ (List.mem_of_getElem? (i := 3) rfl))) rfl
  have S_high := Sta.start evH (Or.inl (hsets _ (List.mem_of_getElem? (i := 1) rfl)))
  obtain ⟨u_cache, evK⟩ := arr_v (Cond.before_iff.mp (hsets _ (List.mem_of_getElem? (i := 4) rfl)))
  have S_cache := Sta.start evK (Or.inr ⟨(hw _ (List.mem_of_getElem? (i := 5) rfl)), (hsets _ (List.mem_of_getElem? (i := 2) rfl))⟩)
  obtain ⟨clC, ArC⟩ := Arr.start evK (Cond.before_iff.mp (hsets _ (List.mem_of_getElem? (i := 4) rfl)))
  obtain ⟨fc, A_cache, hfc⟩ := own_cache hfit (fun _ => evK) ArC (hsets _ (List.mem_of_getElem? (i := 6) rfl)) (hsets _ (List.mem_of_getElem? (i := 7) rfl))
  obtain ⟨u_COMPACT_STRINGS, evC⟩ := is_v (Cond.before_iff.mp (hsets _ (List.mem_of_getElem? (i := 9) rfl)))
  have S_COMPACT_STRINGS := Sta.start evC (Or.inl (hsets _ (List.mem_of_getElem? (i := 8) rfl)))
  have hcs : ¬ u_COMPACT_STRINGS = (0 : Int32) := own_csN evC (hsets _ (List.mem_of_getElem? (i := 10) rfl))
  obtain ⟨u_UNASSIGNED_STACK, evU, hU⟩ := isR_v (Cond.before_iff.mp (hsets _ (List.mem_of_getElem? (i := 24) rfl)))
  have S_UNASSIGNED_STACK := Sta.start evU (Or.inl (hsets _ (List.mem_of_getElem? (i := 23) rfl)))
  obtain ⟨u_SUPPRESSED_SENTINEL, evV, hV⟩ := isR_v (Cond.before_iff.mp (hsets _ (List.mem_of_getElem? (i := 29) rfl)))
  have S_SUPPRESSED_SENTINEL := Sta.start evV (Or.inl (hsets _ (List.mem_of_getElem? (i := 28) rfl)))
  have hst : l.stackTraces = true := by show (!l.flags.contains Jvm.noTraceFlag) = true; rw [hfl]; decide +kernel
  have hTK := Jvm.MethodsKnown_of_tablesKnown hcalls.2.1
  have hBelow := Jvm.FramesKnown_of_framesKnown hcalls.1 hf
  obtain ⟨n, o, h1, h2, h3, _, L, rfl, ⟨rfl, N⟩, hq⟩ := rm0 l s _ hw i0 i1 i2 u_cache fc u_INVALID_PARAMETER_VALUE u_COMPACT_STRINGS u_UNASSIGNED_STACK u_SUPPRESSED_SENTINEL s.heap s.heap.size (Nat.le_refl _) A_cache hfc hcs hst hU hV S_high S_cache S_COMPACT_STRINGS S_INVALID_PARAMETER_VALUE S_UNASSIGNED_STACK S_SUPPRESSED_SENTINEL E_u_INVALID_PARAMETER_VALUE tables_1 p e ha hc hk s m _ below hf ((Spec.applies_iff_loose hf).mp happ).1 ⟨rfl, State.Warmed39.refl s, rfl⟩ ⟨hTK, hBelow⟩
  refine ⟨n, _, h1, h2, h3, hpost _ _ _ _ _ _ ⟨Cond.after_iff.mpr rfl, Cond.after_iff.mpr (eq_i res_at (Term.int_eval (1)) rfl), trivial⟩ ⟨hq.1, hq.2.1, hq.2.2.1, (hq.2.2.2.sift fun y hy => Or.inr (N y hy)).mono (by decide) (by decide)⟩⟩
theorem main_1_1 : Claimed_1_1 := comes_1 fun _ _ _ _ _ _ h hF => ⟨h.1, hF⟩
theorem main_1_2 : Claimed_1_2 := comes_1 fun _ _ _ _ _ _ h hF => ⟨h.2.1, hF⟩
end Jvm.Pilot.@@N@@
namespace Jvm.Pilot.@@N@@
open Jvm Jvm.ClassFile Sem Op Lib Jvm.Free Jvm.Stand Jvm.Pilot.@@N@@.Jvm.D
/-! MADE BY PROGRAM (witnessworld.py) out of the Statement's table words and the real class files: 45 classes; the members and pool entries that the words name. The judged class is class 1, her method 1. -/
namespace start1
open Jvm.ClassFile
def u (s : String) : CpInfo := .utf8 (stringToUtf16 s)
/-- a pool by its gaps: so many unusable entries, then the entry; so many at the end -/
def gap : Nat → List CpInfo → List CpInfo
  | 0, r => r
  | n + 1, r => .unusable :: gap n r
def poolList (es : List (Nat × CpInfo)) (last : Nat) : List CpInfo := es.foldr (fun e r => gap e.1 (e.2 :: r)) (gap last [])
def pool (es : List (Nat × CpInfo)) (last : Nat) : Array CpInfo := ⟨poolList es last⟩
def fileOf (pool : Array CpInfo) (this : Nat) (attrs : Array Attribute := #[]) (ms : Array MethodInfo := #[]) (fl : Nat := 33) (sup : Nat := 0) (ifs : Array Nat := #[]) (fds : Array FieldInfo := #[]) : ClassFile where
  minorVersion := 0
  majorVersion := 65
  constantPool := pool
  accessFlags := fl
  thisClass := this
  superClass := sup
  interfaces := ifs
  fields := fds
  methods := ms
  attributes := attrs
def plain (name : String) (sup : Option ClassId) : Class where
  name := name
  kind := .ordinary
  loader := none
  accessFlags := 33
  super := sup
  interfaces := #[]
  cf := none
  fields := #[]
  methods := #[]
  instanceTypes := #[]
  staticTypes := #[]
  resolved := #[]
  callSites := []
  init := .initialized
  statics := none
  mirror := none

def pool0 : Array CpInfo := pool [(5, u "<init>"), (0, u "()V"), (1, .class_ 10), (1, u "java/lang/Object")] 113

def k0c0 : Code := { maxStack := 0, maxLocals := 1, code := object_method_1_code, exceptionTable := #[], attributes := #[] }
def k0m0 : Method := { name := "<init>", desc := "()V", sig := { parameters := [], returnType := none }, accessFlags := 1, code := some k0c0 }
/-- java/lang/Object -/
def k0 : Class := { plain "java/lang/Object" none with
  accessFlags := 33
  interfaces := #[]
  cf := some (fileOf pool0 8 #[] #[{ accessFlags := 1, nameIndex := 5, descriptorIndex := 6, attributes := #[] }] 33 0 #[] #[])
  fields := #[]
  methods := #[k0m0]
  instanceTypes := #[]
  staticTypes := #[]
  resolved := Array.replicate 124 none
  statics := none }

def pool1 : Array CpInfo := pool [(2, .class_ 4), (1, u "java/lang/Object"), (0, u "<init>"), (0, u "()V"), (0, .methodref 8 9), (0, .class_ 10), (0, .nameAndType 11 12), (0, u "java/lang/Integer"), (0, u "valueOf"), (0, u "(I)Ljava/lang/Integer;"), (0, .class_ 14), (0, u "com/example/inflight/inflight/ApiException"), (0, .fieldref 16 17), (0, .class_ 18), (0, .nameAndType 19 20), (0, u "com/example/inflight/inflight/ErrorCode"), (0, u "INVALID_PARAMETER_VALUE"), (0, u "Lcom/example/inflight/inflight/ErrorCode;"), (0, .class_ 22), (0, u "java/lang/String"), (0, .methodref 21 24), (0, .nameAndType 5 25), (0, u "([C)V"), (0, .methodref 13 27), (0, .nameAndType 5 28), (0, u "(Lcom/example/inflight/inflight/ErrorCode;Ljava/lang/String;)V"), (0, .class_ 30), (0, u "com/example/inflight/inflight/Outcome"), (0, .methodref 29 32), (0, .nameAndType 5 33), (0, u "(Ljava/lang/Object;Lcom/example/inflight/inflight/ApiException;)V"), (0, .methodref 29 35), (0, .nameAndType 36 37), (0, u "isFailed"), (0, u "()Z"), (0, .methodref 29 39), (0, .nameAndType 40 41), (0, u "of"), (0, u "(Ljava/lang/Object;)Lcom/example/inflight/inflight/Outcome;"), (0, .methodref 29 43), (0, .nameAndType 44 45), (0, u "failed"), (0, u "(Lcom/example/inflight/inflight/ApiException;)Lcom/example/inflight/inflight/Outcome;"), (0, .class_ 47), (0, u "com/example/inflight/inflight/OutcomeIsFailedPinLaw"), (2, u "law"), (0, u "(III)Z")] 5

def k1m0 : Method := { name := "<init>", desc := "()V", sig := { parameters := [], returnType := none }, accessFlags := 1, code := none }
def k1c1 : Code := { maxStack := 6, maxLocals := 13, code := code, exceptionTable := #[], attributes := #[] }
def k1m1 : Method := { name := "law", desc := "(III)Z", sig := { parameters := [.int, .int, .int], returnType := some .boolean }, accessFlags := 9, code := some k1c1 }
/-- com/example/inflight/inflight/OutcomeIsFailedPinLaw -/
def k1 : Class := { plain "com/example/inflight/inflight/OutcomeIsFailedPinLaw" (some 0) with
  accessFlags := 49
  interfaces := #[]
  cf := some (fileOf pool1 46 #[] #[{ accessFlags := 1, nameIndex := 5, descriptorIndex := 6, attributes := #[] }, { accessFlags := 9, nameIndex := 50, descriptorIndex := 51, attributes := #[] }] 49 2 #[] #[])
  fields := #[]
  methods := #[k1m0, k1m1]
  instanceTypes := #[]
  staticTypes := #[]
  resolved := Array.replicate 57 none
  statics := none }

def pool2 : Array CpInfo := pool [(1, .class_ 2), (0, u "java/io/Serializable"), (0, .class_ 4), (0, u "java/lang/Object")] 2

/-- java/io/Serializable -/
def k2 : Class := { plain "java/io/Serializable" (some 0) with
  accessFlags := 1537
  interfaces := #[]
  cf := some (fileOf pool2 1 #[] #[] 1537 3 #[] #[])
  fields := #[]
  methods := #[]
  instanceTypes := #[]
  staticTypes := #[]
  resolved := Array.replicate 7 none
  statics := none }

def pool3 : Array CpInfo := pool [(1, .methodref 2 3), (0, .class_ 4), (0, .nameAndType 5 6), (0, u "java/lang/Object"), (0, u "<init>"), (0, u "()V"), (1, .class_ 10), (1, u "java/lang/Number"), (2, .class_ 14), (0, u "java/io/Serializable"), (0, u "serialVersionUID"), (0, u "J")] 20

def k3c0 : Code := { maxStack := 1, maxLocals := 1, code := jdk_18_method_1_code, exceptionTable := #[], attributes := #[] }
def k3m0 : Method := { name := "<init>", desc := "()V", sig := { parameters := [], returnType := none }, accessFlags := 1, code := some k3c0 }
/-- java/lang/Number -/
def k3 : Class := { plain "java/lang/Number" (some 0) with
  accessFlags := 1057
  interfaces := #[2]
  cf := some (fileOf pool3 8 #[] #[{ accessFlags := 1, nameIndex := 5, descriptorIndex := 6, attributes := #[] }] 1057 2 #[13] #[{ accessFlags := 26, nameIndex := 15, descriptorIndex := 16, attributes := #[] }])
  fields := #[{ name := "serialVersionUID", type := .long, accessFlags := 26, slot := 0, constantValue := 0 }]
  methods := #[k3m0]
  instanceTypes := #[]
  staticTypes := #[.long]
  resolved := Array.replicate 37 none
  statics := none }

def pool4 : Array CpInfo := pool [(1, .class_ 2), (0, u "java/lang/Comparable"), (0, .class_ 4), (0, u "java/lang/Object")] 7

/-- java/lang/Comparable -/
def k4 : Class := { plain "java/lang/Comparable" (some 0) with
  accessFlags := 1537
  interfaces := #[]
  cf := some (fileOf pool4 1 #[] #[] 1537 3 #[] #[])
  fields := #[]
  methods := #[]
  instanceTypes := #[]
  staticTypes := #[]
  resolved := Array.replicate 12 none
  statics := none }

def pool5 : Array CpInfo := pool [(1, .class_ 2), (0, u "java/lang/constant/Constable"), (0, .class_ 4), (0, u "java/lang/Object")] 6

/-- java/lang/constant/Constable -/
def k5 : Class := { plain "java/lang/constant/Constable" (some 0) with
  accessFlags := 1537
  interfaces := #[]
  cf := some (fileOf pool5 1 #[] #[] 1537 3 #[] #[])
  fields := #[]
  methods := #[]
  instanceTypes := #[]
  staticTypes := #[]
  resolved := Array.replicate 11 none
  statics := none }

def pool6 : Array CpInfo := pool [(1, .class_ 2), (0, u "java/lang/constant/ConstantDesc"), (0, .class_ 4), (0, u "java/lang/Object")] 32

/-- java/lang/constant/ConstantDesc -/
def k6 : Class := { plain "java/lang/constant/ConstantDesc" (some 0) with
  accessFlags := 1537
  interfaces := #[]
  cf := some (fileOf pool6 1 #[] #[] 1537 3 #[] #[])
  fields := #[]
  methods := #[]
  instanceTypes := #[]
  staticTypes := #[]
  resolved := Array.replicate 37 none
  statics := none }

def pool7 : Array CpInfo := pool [(1, .class_ 2), (0, u "java/lang/Integer"), (16, u "digits"), (0, u "[C"), (46, u "<init>"), (17, u "DigitOnes"), (0, u "[B"), (2, u "DigitTens"), (10, .nameAndType 67 101), (0, u "()V"), (85, u "valueOf"), (0, u "(I)Ljava/lang/Integer;"), (0, .class_ 190), (0, u "java/lang/Integer$IntegerCache"), (0, .fieldref 189 192), (0, .nameAndType 193 194), (0, u "high"), (0, u "I"), (0, .fieldref 189 196), (0, .nameAndType 197 198), (0, u "cache"), (0, u "[Ljava/lang/Integer;"), (0, .methodref 1 200), (0, .nameAndType 67 201), (0, u "(I)V"), (0, .methodref 203 100), (0, .class_ 204), (0, u "java/lang/Number"), (0, .fieldref 1 206), (0, .nameAndType 207 194), (0, u "value"), (94, u "TYPE"), (0, u "Ljava/lang/Class;"), (0, .class_ 305), (0, u "java/lang/Comparable"), (0, .class_ 307), (0, u "java/lang/constant/Constable"), (0, .class_ 309), (0, u "java/lang/constant/ConstantDesc"), (0, u "MIN_VALUE"), (1, u "MAX_VALUE"), (3, u "SIZE"), (1, u "BYTES"), (1, u "serialVersionUID"), (0, u "J")] 131

def k7c0 : Code := { maxStack := 3, maxLocals := 1, code := jdk_33_method_22_code, exceptionTable := #[], attributes := #[] }
def k7m0 : Method := { name := "valueOf", desc := "(I)Ljava/lang/Integer;", sig := { parameters := [.int], returnType := some (.object "java/lang/Integer") }, accessFlags := 9, code := some k7c0 }
def k7c1 : Code := { maxStack := 2, maxLocals := 2, code := jdk_33_method_23_code, exceptionTable := #[], attributes := #[] }
def k7m1 : Method := { name := "<init>", desc := "(I)V", sig := { parameters := [.int], returnType := none }, accessFlags := 1, code := some k7c1 }
/-- java/lang/Integer -/
def k7 : Class := { plain "java/lang/Integer" (some 3) with
  accessFlags := 49
  interfaces := #[4, 5, 6]
  cf := some (fileOf pool7 1 #[.nestMembers #[189]] #[{ accessFlags := 9, nameIndex := 187, descriptorIndex := 188, attributes := #[] }, { accessFlags := 1, nameIndex := 67, descriptorIndex := 201, attributes := #[] }] 49 203 #[304, 306, 308] #[{ accessFlags := 25, nameIndex := 310, descriptorIndex := 194, attributes := #[] }, { accessFlags := 25, nameIndex := 312, descriptorIndex := 194, attributes := #[] }, { accessFlags := 25, nameIndex := 302, descriptorIndex := 303, attributes := #[] }, { accessFlags := 24, nameIndex := 19, descriptorIndex := 20, attributes := #[] }, { accessFlags := 24, nameIndex := 89, descriptorIndex := 86, attributes := #[] }, { accessFlags := 24, nameIndex := 85, descriptorIndex := 86, attributes := #[] }, { accessFlags := 18, nameIndex := 207, descriptorIndex := 194, attributes := #[] }, { accessFlags := 25, nameIndex := 316, descriptorIndex := 194, attributes := #[] }, { accessFlags := 25, nameIndex := 318, descriptorIndex := 194, attributes := #[] }, { accessFlags := 26, nameIndex := 320, descriptorIndex := 321, attributes := #[] }])
  fields := #[{ name := "MIN_VALUE", type := .int, accessFlags := 25, slot := 0, constantValue := 0 }, { name := "MAX_VALUE", type := .int, accessFlags := 25, slot := 1, constantValue := 0 }, { name := "TYPE", type := (.object "java/lang/Class"), accessFlags := 25, slot := 2, constantValue := 0 }, { name := "digits", type := (.array .char), accessFlags := 24, slot := 3, constantValue := 0 }, { name := "DigitTens", type := (.array .byte), accessFlags := 24, slot := 4, constantValue := 0 }, { name := "DigitOnes", type := (.array .byte), accessFlags := 24, slot := 5, constantValue := 0 }, { name := "value", type := .int, accessFlags := 18, slot := 0, constantValue := 0 }, { name := "SIZE", type := .int, accessFlags := 25, slot := 6, constantValue := 0 }, { name := "BYTES", type := .int, accessFlags := 25, slot := 7, constantValue := 0 }, { name := "serialVersionUID", type := .long, accessFlags := 26, slot := 8, constantValue := 0 }]
  methods := #[k7m0, k7m1]
  instanceTypes := #[.int]
  staticTypes := #[.int, .int, (.object "java/lang/Class"), (.array .char), (.array .byte), (.array .byte), .int, .int, .long]
  resolved := Array.replicate 453 none
  statics := none }

def pool8 : Array CpInfo := pool [(2, .class_ 4), (1, u "java/lang/Object"), (0, u "<init>"), (0, u "()V"), (0, .class_ 8), (0, u "java/lang/Integer"), (7, .class_ 18), (1, u "java/lang/Integer$IntegerCache"), (0, u "$assertionsDisabled"), (0, u "Z"), (26, u "high"), (0, u "I"), (8, u "archivedCache"), (0, u "[Ljava/lang/Integer;"), (12, u "cache"), (0, u "low")] 27

def k8m0 : Method := { name := "<init>", desc := "()V", sig := { parameters := [], returnType := none }, accessFlags := 2, code := none }
/-- java/lang/Integer$IntegerCache -/
def k8 : Class := { plain "java/lang/Integer$IntegerCache" (some 0) with
  accessFlags := 48
  interfaces := #[]
  cf := some (fileOf pool8 16 #[.nestHost 7] #[{ accessFlags := 2, nameIndex := 5, descriptorIndex := 6, attributes := #[] }] 48 2 #[] #[{ accessFlags := 24, nameIndex := 72, descriptorIndex := 48, attributes := #[] }, { accessFlags := 24, nameIndex := 47, descriptorIndex := 48, attributes := #[] }, { accessFlags := 24, nameIndex := 71, descriptorIndex := 58, attributes := #[] }, { accessFlags := 8, nameIndex := 57, descriptorIndex := 58, attributes := #[] }, { accessFlags := 4120, nameIndex := 19, descriptorIndex := 20, attributes := #[] }])
  fields := #[{ name := "low", type := .int, accessFlags := 24, slot := 0, constantValue := 0 }, { name := "high", type := .int, accessFlags := 24, slot := 1, constantValue := 0 }, { name := "cache", type := (.array (.object "java/lang/Integer")), accessFlags := 24, slot := 2, constantValue := 0 }, { name := "archivedCache", type := (.array (.object "java/lang/Integer")), accessFlags := 8, slot := 3, constantValue := 0 }, { name := "$assertionsDisabled", type := .boolean, accessFlags := 4120, slot := 4, constantValue := 0 }]
  methods := #[k8m0]
  instanceTypes := #[]
  staticTypes := #[.int, .int, (.array (.object "java/lang/Integer")), (.array (.object "java/lang/Integer")), .boolean]
  resolved := Array.replicate 100 none
  statics := some 0 }

def pool9 : Array CpInfo := pool [(1, .methodref 2 3), (0, .class_ 4), (0, .nameAndType 5 6), (0, u "java/lang/Object"), (0, u "<init>"), (0, u "()V"), (0, .fieldref 8 9), (0, .class_ 10), (0, .nameAndType 11 12), (0, u "java/lang/Throwable"), (0, u "cause"), (0, u "Ljava/lang/Throwable;"), (0, .fieldref 8 14), (0, .nameAndType 15 16), (0, u "UNASSIGNED_STACK"), (0, u "[Ljava/lang/StackTraceElement;"), (0, .fieldref 8 18), (0, .nameAndType 19 16), (0, u "stackTrace"), (0, .fieldref 8 21), (0, .nameAndType 22 23), (0, u "SUPPRESSED_SENTINEL"), (0, u "Ljava/util/List;"), (0, .fieldref 8 25), (0, .nameAndType 26 23), (0, u "suppressedExceptions"), (0, .methodref 8 28), (0, .nameAndType 29 30), (0, u "fillInStackTrace"), (0, u "()Ljava/lang/Throwable;"), (0, .fieldref 8 32), (0, .nameAndType 33 34), (0, u "detailMessage"), (0, u "Ljava/lang/String;"), (58, .class_ 94), (0, u "java/lang/Throwable$WrappedPrintStream"), (6, .class_ 103), (1, u "java/lang/Throwable$PrintStreamOrWriter"), (61, u "$assertionsDisabled"), (0, u "Z"), (26, .class_ 194), (0, u "java/lang/Throwable$WrappedPrintWriter"), (3, .fieldref 8 199), (0, .nameAndType 200 201), (0, u "backtrace"), (0, u "Ljava/lang/Object;"), (0, .methodref 8 203), (0, .nameAndType 29 204), (0, u "(I)Ljava/lang/Throwable;"), (6, u "depth"), (0, u "I"), (10, u "(Ljava/lang/String;)V"), (45, .class_ 271), (1, u "java/lang/Throwable$SentinelHolder"), (32, u "EMPTY_THROWABLE_ARRAY"), (0, u "[Ljava/lang/Throwable;"), (12, .class_ 319), (0, u "java/io/Serializable"), (0, u "serialVersionUID"), (0, u "J"), (5, u "NULL_CAUSE_MESSAGE"), (0, u "SELF_SUPPRESSION_MESSAGE"), (0, u "CAUSE_CAPTION"), (0, u "SUPPRESSED_CAPTION")] 73

def k9c0 : Code := { maxStack := 2, maxLocals := 1, code := jdk_78_method_1_code, exceptionTable := #[], attributes := #[] }
def k9m0 : Method := { name := "<init>", desc := "()V", sig := { parameters := [], returnType := none }, accessFlags := 1, code := some k9c0 }
def k9c1 : Code := { maxStack := 2, maxLocals := 2, code := jdk_78_method_2_code, exceptionTable := #[], attributes := #[] }
def k9m1 : Method := { name := "<init>", desc := "(Ljava/lang/String;)V", sig := { parameters := [(.object "java/lang/String")], returnType := none }, accessFlags := 1, code := some k9c1 }
def k9c2 : Code := { maxStack := 2, maxLocals := 1, code := ⟨#[0x2a, 0xb4, 0x00, 0x11, 0xc7, 0x00, 0x0a, 0x2a, 0xb4, 0x00, 0xc6, 0xc6, 0x00, 0x10, 0x2a, 0x03, 0xb6, 0x00, 0xca, 0x57, 0x2a, 0xb2, 0x00, 0x0d, 0xb5, 0x00, 0x11, 0x2a, 0xb0]⟩, exceptionTable := #[], attributes := #[] }
def k9m2 : Method := { name := "fillInStackTrace", desc := "()Ljava/lang/Throwable;", sig := { parameters := [], returnType := some (.object "java/lang/Throwable") }, accessFlags := 33, code := some k9c2 }
def k9m3 : Method := { name := "fillInStackTrace", desc := "(I)Ljava/lang/Throwable;", sig := { parameters := [.int], returnType := some (.object "java/lang/Throwable") }, accessFlags := 258, code := none }
/-- java/lang/Throwable -/
def k9 : Class := { plain "java/lang/Throwable" (some 0) with
  accessFlags := 33
  interfaces := #[2]
  cf := some (fileOf pool9 8 #[.nestMembers #[193, 93, 101, 269]] #[{ accessFlags := 1, nameIndex := 5, descriptorIndex := 6, attributes := #[] }, { accessFlags := 1, nameIndex := 5, descriptorIndex := 223, attributes := #[] }, { accessFlags := 33, nameIndex := 29, descriptorIndex := 30, attributes := #[] }, { accessFlags := 258, nameIndex := 29, descriptorIndex := 204, attributes := #[] }] 33 2 #[318] #[{ accessFlags := 26, nameIndex := 320, descriptorIndex := 321, attributes := #[] }, { accessFlags := 130, nameIndex := 200, descriptorIndex := 201, attributes := #[] }, { accessFlags := 2, nameIndex := 33, descriptorIndex := 34, attributes := #[] }, { accessFlags := 26, nameIndex := 15, descriptorIndex := 16, attributes := #[] }, { accessFlags := 2, nameIndex := 11, descriptorIndex := 12, attributes := #[] }, { accessFlags := 2, nameIndex := 19, descriptorIndex := 16, attributes := #[] }, { accessFlags := 130, nameIndex := 211, descriptorIndex := 212, attributes := #[] }, { accessFlags := 26, nameIndex := 22, descriptorIndex := 23, attributes := #[] }, { accessFlags := 2, nameIndex := 26, descriptorIndex := 23, attributes := #[] }, { accessFlags := 26, nameIndex := 327, descriptorIndex := 34, attributes := #[] }, { accessFlags := 26, nameIndex := 328, descriptorIndex := 34, attributes := #[] }, { accessFlags := 26, nameIndex := 329, descriptorIndex := 34, attributes := #[] }, { accessFlags := 26, nameIndex := 330, descriptorIndex := 34, attributes := #[] }, { accessFlags := 26, nameIndex := 304, descriptorIndex := 305, attributes := #[] }, { accessFlags := 4120, nameIndex := 165, descriptorIndex := 166, attributes := #[] }])
  fields := #[{ name := "serialVersionUID", type := .long, accessFlags := 26, slot := 0, constantValue := 0 }, { name := "backtrace", type := (.object "java/lang/Object"), accessFlags := 130, slot := 0, constantValue := 0 }, { name := "detailMessage", type := (.object "java/lang/String"), accessFlags := 2, slot := 1, constantValue := 0 }, { name := "UNASSIGNED_STACK", type := (.array (.object "java/lang/StackTraceElement")), accessFlags := 26, slot := 1, constantValue := 0 }, { name := "cause", type := (.object "java/lang/Throwable"), accessFlags := 2, slot := 2, constantValue := 0 }, { name := "stackTrace", type := (.array (.object "java/lang/StackTraceElement")), accessFlags := 2, slot := 3, constantValue := 0 }, { name := "depth", type := .int, accessFlags := 130, slot := 4, constantValue := 0 }, { name := "SUPPRESSED_SENTINEL", type := (.object "java/util/List"), accessFlags := 26, slot := 2, constantValue := 0 }, { name := "suppressedExceptions", type := (.object "java/util/List"), accessFlags := 2, slot := 5, constantValue := 0 }, { name := "NULL_CAUSE_MESSAGE", type := (.object "java/lang/String"), accessFlags := 26, slot := 3, constantValue := 0 }, { name := "SELF_SUPPRESSION_MESSAGE", type := (.object "java/lang/String"), accessFlags := 26, slot := 4, constantValue := 0 }, { name := "CAUSE_CAPTION", type := (.object "java/lang/String"), accessFlags := 26, slot := 5, constantValue := 0 }, { name := "SUPPRESSED_CAPTION", type := (.object "java/lang/String"), accessFlags := 26, slot := 6, constantValue := 0 }, { name := "EMPTY_THROWABLE_ARRAY", type := (.array (.object "java/lang/Throwable")), accessFlags := 26, slot := 7, constantValue := 0 }, { name := "$assertionsDisabled", type := .boolean, accessFlags := 4120, slot := 8, constantValue := 0 }]
  methods := #[k9m0, k9m1, k9m2, k9m3]
  instanceTypes := #[(.object "java/lang/Object"), (.object "java/lang/String"), (.object "java/lang/Throwable"), (.array (.object "java/lang/StackTraceElement")), .int, (.object "java/util/List")]
  staticTypes := #[.long, (.array (.object "java/lang/StackTraceElement")), (.object "java/util/List"), (.object "java/lang/String"), (.object "java/lang/String"), (.object "java/lang/String"), (.object "java/lang/String"), (.array (.object "java/lang/Throwable")), .boolean]
  resolved := Array.replicate 404 none
  statics := some 1 }

def pool10 : Array CpInfo := pool [(2, .class_ 4), (1, u "java/lang/Throwable"), (0, u "<init>"), (0, u "()V"), (0, .methodref 2 8), (0, .nameAndType 5 9), (0, u "(Ljava/lang/String;)V"), (9, .class_ 20), (0, u "java/lang/Exception"), (0, u "serialVersionUID"), (0, u "J")] 17

def k10m0 : Method := { name := "<init>", desc := "()V", sig := { parameters := [], returnType := none }, accessFlags := 1, code := none }
def k10c1 : Code := { maxStack := 2, maxLocals := 2, code := jdk_59_method_2_code, exceptionTable := #[], attributes := #[] }
def k10m1 : Method := { name := "<init>", desc := "(Ljava/lang/String;)V", sig := { parameters := [(.object "java/lang/String")], returnType := none }, accessFlags := 1, code := some k10c1 }
/-- java/lang/Exception -/
def k10 : Class := { plain "java/lang/Exception" (some 9) with
  accessFlags := 33
  interfaces := #[]
  cf := some (fileOf pool10 19 #[] #[{ accessFlags := 1, nameIndex := 5, descriptorIndex := 6, attributes := #[] }, { accessFlags := 1, nameIndex := 5, descriptorIndex := 9, attributes := #[] }] 33 2 #[] #[{ accessFlags := 24, nameIndex := 21, descriptorIndex := 22, attributes := #[] }])
  fields := #[{ name := "serialVersionUID", type := .long, accessFlags := 24, slot := 0, constantValue := 0 }]
  methods := #[k10m0, k10m1]
  instanceTypes := #[(.object "java/lang/Object"), (.object "java/lang/String"), (.object "java/lang/Throwable"), (.array (.object "java/lang/StackTraceElement")), .int, (.object "java/util/List")]
  staticTypes := #[.long]
  resolved := Array.replicate 40 none
  statics := none }

def pool11 : Array CpInfo := pool [(2, .class_ 4), (1, u "java/lang/Exception"), (0, u "<init>"), (0, u "()V"), (0, .methodref 2 8), (0, .nameAndType 5 9), (0, u "(Ljava/lang/String;)V"), (9, .class_ 20), (0, u "java/lang/RuntimeException"), (0, u "serialVersionUID"), (0, u "J")] 17

def k11m0 : Method := { name := "<init>", desc := "()V", sig := { parameters := [], returnType := none }, accessFlags := 1, code := none }
def k11c1 : Code := { maxStack := 2, maxLocals := 2, code := jdk_58_method_2_code, exceptionTable := #[], attributes := #[] }
def k11m1 : Method := { name := "<init>", desc := "(Ljava/lang/String;)V", sig := { parameters := [(.object "java/lang/String")], returnType := none }, accessFlags := 1, code := some k11c1 }
/-- java/lang/RuntimeException -/
def k11 : Class := { plain "java/lang/RuntimeException" (some 10) with
  accessFlags := 33
  interfaces := #[]
  cf := some (fileOf pool11 19 #[] #[{ accessFlags := 1, nameIndex := 5, descriptorIndex := 6, attributes := #[] }, { accessFlags := 1, nameIndex := 5, descriptorIndex := 9, attributes := #[] }] 33 2 #[] #[{ accessFlags := 24, nameIndex := 21, descriptorIndex := 22, attributes := #[] }])
  fields := #[{ name := "serialVersionUID", type := .long, accessFlags := 24, slot := 0, constantValue := 0 }]
  methods := #[k11m0, k11m1]
  instanceTypes := #[(.object "java/lang/Object"), (.object "java/lang/String"), (.object "java/lang/Throwable"), (.array (.object "java/lang/StackTraceElement")), .int, (.object "java/util/List")]
  staticTypes := #[.long]
  resolved := Array.replicate 40 none
  statics := none }

def pool12 : Array CpInfo := pool [(1, .methodref 2 3), (0, .class_ 4), (0, .nameAndType 5 6), (0, u "java/lang/RuntimeException"), (0, u "<init>"), (0, u "(Ljava/lang/String;)V"), (0, .string 8), (0, u "errorCode"), (0, .methodref 10 11), (0, .class_ 12), (0, .nameAndType 13 14), (0, u "java/util/Objects"), (0, u "requireNonNull"), (0, u "(Ljava/lang/Object;Ljava/lang/String;)Ljava/lang/Object;"), (0, .class_ 16), (0, u "com/example/inflight/inflight/ErrorCode"), (0, .fieldref 18 19), (0, .class_ 20), (0, .nameAndType 8 21), (0, u "com/example/inflight/inflight/ApiException"), (0, u "Lcom/example/inflight/inflight/ErrorCode;"), (9, u "(Lcom/example/inflight/inflight/ErrorCode;Ljava/lang/String;)V"), (0, u "serialVersionUID"), (0, u "J")] 25

def k12c0 : Code := { maxStack := 3, maxLocals := 3, code := prog_2_method_1_code, exceptionTable := #[], attributes := #[] }
def k12m0 : Method := { name := "<init>", desc := "(Lcom/example/inflight/inflight/ErrorCode;Ljava/lang/String;)V", sig := { parameters := [(.object "com/example/inflight/inflight/ErrorCode"), (.object "java/lang/String")], returnType := none }, accessFlags := 1, code := some k12c0 }
/-- com/example/inflight/inflight/ApiException -/
def k12 : Class := { plain "com/example/inflight/inflight/ApiException" (some 11) with
  accessFlags := 49
  interfaces := #[]
  cf := some (fileOf pool12 18 #[] #[{ accessFlags := 1, nameIndex := 5, descriptorIndex := 31, attributes := #[] }] 49 2 #[] #[{ accessFlags := 26, nameIndex := 32, descriptorIndex := 33, attributes := #[] }, { accessFlags := 18, nameIndex := 8, descriptorIndex := 21, attributes := #[] }])
  fields := #[{ name := "serialVersionUID", type := .long, accessFlags := 26, slot := 0, constantValue := 0 }, { name := "errorCode", type := (.object "com/example/inflight/inflight/ErrorCode"), accessFlags := 18, slot := 6, constantValue := 0 }]
  methods := #[k12m0]
  instanceTypes := #[(.object "java/lang/Object"), (.object "java/lang/String"), (.object "java/lang/Throwable"), (.array (.object "java/lang/StackTraceElement")), .int, (.object "java/util/List"), (.object "com/example/inflight/inflight/ErrorCode")]
  staticTypes := #[.long]
  resolved := Array.replicate 59 none
  statics := none }

def pool13 : Array CpInfo := pool [(2, .class_ 4), (1, u "java/lang/Enum"), (0, u "name"), (0, u "Ljava/lang/String;"), (2, u "ordinal"), (0, u "I"), (1, .class_ 14), (1, u "java/lang/Object"), (4, u "hash"), (86, .class_ 108), (1, u "java/lang/Enum$EnumDesc"), (2, .class_ 112), (0, u "java/lang/constant/Constable"), (0, .class_ 114), (0, u "java/lang/Comparable"), (0, .class_ 116), (0, u "java/io/Serializable")] 87

/-- java/lang/Enum -/
def k13 : Class := { plain "java/lang/Enum" (some 0) with
  accessFlags := 1057
  interfaces := #[5, 4, 2]
  cf := some (fileOf pool13 2 #[.nestMembers #[106]] #[] 1057 12 #[111, 113, 115] #[{ accessFlags := 18, nameIndex := 5, descriptorIndex := 6, attributes := #[] }, { accessFlags := 18, nameIndex := 9, descriptorIndex := 10, attributes := #[] }, { accessFlags := 2, nameIndex := 19, descriptorIndex := 10, attributes := #[] }])
  fields := #[{ name := "name", type := (.object "java/lang/String"), accessFlags := 18, slot := 0, constantValue := 0 }, { name := "ordinal", type := .int, accessFlags := 18, slot := 1, constantValue := 0 }, { name := "hash", type := .int, accessFlags := 2, slot := 2, constantValue := 0 }]
  methods := #[]
  instanceTypes := #[(.object "java/lang/String"), .int, .int]
  staticTypes := #[]
  resolved := Array.replicate 204 none
  statics := none }

def pool14 : Array CpInfo := pool [(1, .class_ 2), (0, u "com/example/inflight/inflight/ErrorCode"), (2, u "MISSING_ACTION"), (0, u "Lcom/example/inflight/inflight/ErrorCode;"), (2, u "INVALID_ACTION"), (2, u "MALFORMED_QUERY_STRING"), (2, u "SERIALIZATION_EXCEPTION"), (2, u "MISSING_PARAMETER"), (2, u "INVALID_PARAMETER_VALUE"), (2, u "INVALID_MESSAGE_CONTENTS"), (2, u "INVALID_ATTRIBUTE_NAME"), (2, u "INVALID_ATTRIBUTE_VALUE"), (2, u "QUEUE_ALREADY_EXISTS"), (2, u "NON_EXISTENT_QUEUE"), (2, u "RECEIPT_HANDLE_IS_INVALID"), (2, u "MESSAGE_NOT_INFLIGHT"), (2, u "EMPTY_BATCH_REQUEST"), (2, u "TOO_MANY_ENTRIES_IN_BATCH_REQUEST"), (2, u "INVALID_BATCH_ENTRY_ID"), (2, u "BATCH_ENTRY_IDS_NOT_DISTINCT"), (2, u "BATCH_REQUEST_TOO_LONG"), (2, u "OVER_LIMIT"), (2, u "METHOD_NOT_ALLOWED"), (2, u "REQUEST_ENTITY_TOO_LARGE"), (2, u "INTERNAL_FAILURE"), (2, u "$VALUES"), (0, u "[Lcom/example/inflight/inflight/ErrorCode;"), (6, .class_ 82), (1, u "java/lang/Enum"), (11, u "code"), (0, u "Ljava/lang/String;"), (2, u "shape"), (2, u "httpStatus"), (0, u "I"), (2, u "senderFault"), (0, u "Z")] 105

/-- com/example/inflight/inflight/ErrorCode -/
def k14 : Class := { plain "com/example/inflight/inflight/ErrorCode" (some 13) with
  accessFlags := 16433
  interfaces := #[]
  cf := some (fileOf pool14 1 #[] #[] 16433 80 #[] #[{ accessFlags := 16409, nameIndex := 5, descriptorIndex := 6, attributes := #[] }, { accessFlags := 16409, nameIndex := 9, descriptorIndex := 6, attributes := #[] }, { accessFlags := 16409, nameIndex := 12, descriptorIndex := 6, attributes := #[] }, { accessFlags := 16409, nameIndex := 15, descriptorIndex := 6, attributes := #[] }, { accessFlags := 16409, nameIndex := 18, descriptorIndex := 6, attributes := #[] }, { accessFlags := 16409, nameIndex := 21, descriptorIndex := 6, attributes := #[] }, { accessFlags := 16409, nameIndex := 24, descriptorIndex := 6, attributes := #[] }, { accessFlags := 16409, nameIndex := 27, descriptorIndex := 6, attributes := #[] }, { accessFlags := 16409, nameIndex := 30, descriptorIndex := 6, attributes := #[] }, { accessFlags := 16409, nameIndex := 33, descriptorIndex := 6, attributes := #[] }, { accessFlags := 16409, nameIndex := 36, descriptorIndex := 6, attributes := #[] }, { accessFlags := 16409, nameIndex := 39, descriptorIndex := 6, attributes := #[] }, { accessFlags := 16409, nameIndex := 42, descriptorIndex := 6, attributes := #[] }, { accessFlags := 16409, nameIndex := 45, descriptorIndex := 6, attributes := #[] }, { accessFlags := 16409, nameIndex := 48, descriptorIndex := 6, attributes := #[] }, { accessFlags := 16409, nameIndex := 51, descriptorIndex := 6, attributes := #[] }, { accessFlags := 16409, nameIndex := 54, descriptorIndex := 6, attributes := #[] }, { accessFlags := 16409, nameIndex := 57, descriptorIndex := 6, attributes := #[] }, { accessFlags := 16409, nameIndex := 60, descriptorIndex := 6, attributes := #[] }, { accessFlags := 16409, nameIndex := 63, descriptorIndex := 6, attributes := #[] }, { accessFlags := 16409, nameIndex := 66, descriptorIndex := 6, attributes := #[] }, { accessFlags := 16409, nameIndex := 69, descriptorIndex := 6, attributes := #[] }, { accessFlags := 18, nameIndex := 94, descriptorIndex := 95, attributes := #[] }, { accessFlags := 18, nameIndex := 98, descriptorIndex := 95, attributes := #[] }, { accessFlags := 18, nameIndex := 101, descriptorIndex := 102, attributes := #[] }, { accessFlags := 18, nameIndex := 105, descriptorIndex := 106, attributes := #[] }, { accessFlags := 4122, nameIndex := 72, descriptorIndex := 73, attributes := #[] }])
  fields := #[{ name := "MISSING_ACTION", type := (.object "com/example/inflight/inflight/ErrorCode"), accessFlags := 16409, slot := 0, constantValue := 0 }, { name := "INVALID_ACTION", type := (.object "com/example/inflight/inflight/ErrorCode"), accessFlags := 16409, slot := 1, constantValue := 0 }, { name := "MALFORMED_QUERY_STRING", type := (.object "com/example/inflight/inflight/ErrorCode"), accessFlags := 16409, slot := 2, constantValue := 0 }, { name := "SERIALIZATION_EXCEPTION", type := (.object "com/example/inflight/inflight/ErrorCode"), accessFlags := 16409, slot := 3, constantValue := 0 }, { name := "MISSING_PARAMETER", type := (.object "com/example/inflight/inflight/ErrorCode"), accessFlags := 16409, slot := 4, constantValue := 0 }, { name := "INVALID_PARAMETER_VALUE", type := (.object "com/example/inflight/inflight/ErrorCode"), accessFlags := 16409, slot := 5, constantValue := 0 }, { name := "INVALID_MESSAGE_CONTENTS", type := (.object "com/example/inflight/inflight/ErrorCode"), accessFlags := 16409, slot := 6, constantValue := 0 }, { name := "INVALID_ATTRIBUTE_NAME", type := (.object "com/example/inflight/inflight/ErrorCode"), accessFlags := 16409, slot := 7, constantValue := 0 }, { name := "INVALID_ATTRIBUTE_VALUE", type := (.object "com/example/inflight/inflight/ErrorCode"), accessFlags := 16409, slot := 8, constantValue := 0 }, { name := "QUEUE_ALREADY_EXISTS", type := (.object "com/example/inflight/inflight/ErrorCode"), accessFlags := 16409, slot := 9, constantValue := 0 }, { name := "NON_EXISTENT_QUEUE", type := (.object "com/example/inflight/inflight/ErrorCode"), accessFlags := 16409, slot := 10, constantValue := 0 }, { name := "RECEIPT_HANDLE_IS_INVALID", type := (.object "com/example/inflight/inflight/ErrorCode"), accessFlags := 16409, slot := 11, constantValue := 0 }, { name := "MESSAGE_NOT_INFLIGHT", type := (.object "com/example/inflight/inflight/ErrorCode"), accessFlags := 16409, slot := 12, constantValue := 0 }, { name := "EMPTY_BATCH_REQUEST", type := (.object "com/example/inflight/inflight/ErrorCode"), accessFlags := 16409, slot := 13, constantValue := 0 }, { name := "TOO_MANY_ENTRIES_IN_BATCH_REQUEST", type := (.object "com/example/inflight/inflight/ErrorCode"), accessFlags := 16409, slot := 14, constantValue := 0 }, { name := "INVALID_BATCH_ENTRY_ID", type := (.object "com/example/inflight/inflight/ErrorCode"), accessFlags := 16409, slot := 15, constantValue := 0 }, { name := "BATCH_ENTRY_IDS_NOT_DISTINCT", type := (.object "com/example/inflight/inflight/ErrorCode"), accessFlags := 16409, slot := 16, constantValue := 0 }, { name := "BATCH_REQUEST_TOO_LONG", type := (.object "com/example/inflight/inflight/ErrorCode"), accessFlags := 16409, slot := 17, constantValue := 0 }, { name := "OVER_LIMIT", type := (.object "com/example/inflight/inflight/ErrorCode"), accessFlags := 16409, slot := 18, constantValue := 0 }, { name := "METHOD_NOT_ALLOWED", type := (.object "com/example/inflight/inflight/ErrorCode"), accessFlags := 16409, slot := 19, constantValue := 0 }, { name := "REQUEST_ENTITY_TOO_LARGE", type := (.object "com/example/inflight/inflight/ErrorCode"), accessFlags := 16409, slot := 20, constantValue := 0 }, { name := "INTERNAL_FAILURE", type := (.object "com/example/inflight/inflight/ErrorCode"), accessFlags := 16409, slot := 21, constantValue := 0 }, { name := "code", type := (.object "java/lang/String"), accessFlags := 18, slot := 3, constantValue := 0 }, { name := "shape", type := (.object "java/lang/String"), accessFlags := 18, slot := 4, constantValue := 0 }, { name := "httpStatus", type := .int, accessFlags := 18, slot := 5, constantValue := 0 }, { name := "senderFault", type := .boolean, accessFlags := 18, slot := 6, constantValue := 0 }, { name := "$VALUES", type := (.array (.object "com/example/inflight/inflight/ErrorCode")), accessFlags := 4122, slot := 22, constantValue := 0 }]
  methods := #[]
  instanceTypes := #[(.object "java/lang/String"), .int, .int, (.object "java/lang/String"), (.object "java/lang/String"), .int, .boolean]
  staticTypes := #[(.object "com/example/inflight/inflight/ErrorCode"), (.object "com/example/inflight/inflight/ErrorCode"), (.object "com/example/inflight/inflight/ErrorCode"), (.object "com/example/inflight/inflight/ErrorCode"), (.object "com/example/inflight/inflight/ErrorCode"), (.object "com/example/inflight/inflight/ErrorCode"), (.object "com/example/inflight/inflight/ErrorCode"), (.object "com/example/inflight/inflight/ErrorCode"), (.object "com/example/inflight/inflight/ErrorCode"), (.object "com/example/inflight/inflight/ErrorCode"), (.object "com/example/inflight/inflight/ErrorCode"), (.object "com/example/inflight/inflight/ErrorCode"), (.object "com/example/inflight/inflight/ErrorCode"), (.object "com/example/inflight/inflight/ErrorCode"), (.object "com/example/inflight/inflight/ErrorCode"), (.object "com/example/inflight/inflight/ErrorCode"), (.object "com/example/inflight/inflight/ErrorCode"), (.object "com/example/inflight/inflight/ErrorCode"), (.object "com/example/inflight/inflight/ErrorCode"), (.object "com/example/inflight/inflight/ErrorCode"), (.object "com/example/inflight/inflight/ErrorCode"), (.object "com/example/inflight/inflight/ErrorCode"), (.array (.object "com/example/inflight/inflight/ErrorCode"))]
  resolved := Array.replicate 212 none
  statics := some 2 }

def pool15 : Array CpInfo := pool [(2, .class_ 4), (1, u "java/lang/CharSequence"), (42, .class_ 48), (0, u "java/lang/CharSequence$1CodePointIterator"), (10, .class_ 60), (0, u "java/lang/CharSequence$1CharIterator"), (5, .class_ 67), (0, u "java/lang/Object")] 63

/-- java/lang/CharSequence -/
def k15 : Class := { plain "java/lang/CharSequence" (some 0) with
  accessFlags := 1537
  interfaces := #[]
  cf := some (fileOf pool15 2 #[.nestMembers #[47, 59]] #[] 1537 66 #[] #[])
  fields := #[]
  methods := #[]
  instanceTypes := #[]
  staticTypes := #[]
  resolved := Array.replicate 131 none
  statics := none }

def pool16 : Array CpInfo := pool [(1, .methodref 2 3), (0, .class_ 4), (0, .nameAndType 5 6), (0, u "java/lang/Object"), (0, u "<init>"), (0, u "()V"), (2, .fieldref 10 11), (0, .class_ 12), (0, .nameAndType 13 14), (0, u "java/lang/String"), (0, u "value"), (0, u "[B"), (0, .fieldref 10 16), (0, .nameAndType 17 18), (0, u "coder"), (0, u "B"), (2, u "hash"), (0, u "I"), (2, u "hashIsZero"), (0, u "Z"), (0, .methodref 10 28), (0, .nameAndType 5 29), (0, u "([CIILjava/lang/Void;)V"), (8, .fieldref 10 39), (0, .nameAndType 40 26), (0, u "COMPACT_STRINGS"), (1, .class_ 44), (1, u "java/lang/StringUTF16"), (0, u "compress"), (1, .methodref 42 48), (0, .nameAndType 49 50), (0, u "coderFromArrayLen"), (0, u "([BI)B"), (126, .methodref 42 178), (0, .nameAndType 45 179), (0, u "([CII)[B"), (395, .class_ 576), (0, u "java/lang/CharSequence"), (22, u "CASE_INSENSITIVE_ORDER"), (0, u "Ljava/util/Comparator;"), (409, u "([C)V"), (90, u "serialPersistentFields"), (0, u "[Ljava/io/ObjectStreamField;"), (0, .class_ 1104), (0, u "java/lang/String$CaseInsensitiveComparator"), (1, .class_ 1107), (0, u "java/io/Serializable"), (0, .class_ 1109), (0, u "java/lang/Comparable"), (0, .class_ 1111), (0, u "java/lang/constant/Constable"), (0, .class_ 1113), (0, u "java/lang/constant/ConstantDesc"), (2, u "serialVersionUID"), (0, u "J"), (3, u "REPL"), (0, u "C"), (2, u "LATIN1"), (1, u "UTF16")] 323

def k16m0 : Method := { name := "<init>", desc := "()V", sig := { parameters := [], returnType := none }, accessFlags := 1, code := none }
def k16c1 : Code := { maxStack := 5, maxLocals := 2, code := jdk_42_method_3_code, exceptionTable := #[], attributes := #[] }
def k16m1 : Method := { name := "<init>", desc := "([C)V", sig := { parameters := [(.array .char)], returnType := none }, accessFlags := 1, code := some k16c1 }
def k16c2 : Code := { maxStack := 4, maxLocals := 6, code := jdk_42_method_149_code, exceptionTable := #[], attributes := #[] }
def k16m2 : Method := { name := "<init>", desc := "([CIILjava/lang/Void;)V", sig := { parameters := [(.array .char), .int, .int, (.object "java/lang/Void")], returnType := none }, accessFlags := 2, code := some k16c2 }
/-- java/lang/String -/
def k16 : Class := { plain "java/lang/String" (some 0) with
  accessFlags := 49
  interfaces := #[2, 4, 15, 5, 6]
  cf := some (fileOf pool16 10 #[.nestMembers #[1103]] #[{ accessFlags := 1, nameIndex := 5, descriptorIndex := 6, attributes := #[] }, { accessFlags := 1, nameIndex := 5, descriptorIndex := 1010, attributes := #[] }, { accessFlags := 2, nameIndex := 5, descriptorIndex := 29, attributes := #[] }] 49 2 #[1106, 1108, 575, 1110, 1112] #[{ accessFlags := 18, nameIndex := 13, descriptorIndex := 14, attributes := #[] }, { accessFlags := 18, nameIndex := 17, descriptorIndex := 18, attributes := #[] }, { accessFlags := 2, nameIndex := 21, descriptorIndex := 22, attributes := #[] }, { accessFlags := 2, nameIndex := 25, descriptorIndex := 26, attributes := #[] }, { accessFlags := 26, nameIndex := 1116, descriptorIndex := 1117, attributes := #[] }, { accessFlags := 24, nameIndex := 40, descriptorIndex := 26, attributes := #[] }, { accessFlags := 26, nameIndex := 1101, descriptorIndex := 1102, attributes := #[] }, { accessFlags := 26, nameIndex := 1121, descriptorIndex := 1122, attributes := #[] }, { accessFlags := 25, nameIndex := 599, descriptorIndex := 600, attributes := #[] }, { accessFlags := 24, nameIndex := 1125, descriptorIndex := 18, attributes := #[] }, { accessFlags := 24, nameIndex := 1127, descriptorIndex := 18, attributes := #[] }])
  fields := #[{ name := "value", type := (.array .byte), accessFlags := 18, slot := 0, constantValue := 0 }, { name := "coder", type := .byte, accessFlags := 18, slot := 1, constantValue := 0 }, { name := "hash", type := .int, accessFlags := 2, slot := 2, constantValue := 0 }, { name := "hashIsZero", type := .boolean, accessFlags := 2, slot := 3, constantValue := 0 }, { name := "serialVersionUID", type := .long, accessFlags := 26, slot := 0, constantValue := 0 }, { name := "COMPACT_STRINGS", type := .boolean, accessFlags := 24, slot := 1, constantValue := 0 }, { name := "serialPersistentFields", type := (.array (.object "java/io/ObjectStreamField")), accessFlags := 26, slot := 2, constantValue := 0 }, { name := "REPL", type := .char, accessFlags := 26, slot := 3, constantValue := 0 }, { name := "CASE_INSENSITIVE_ORDER", type := (.object "java/util/Comparator"), accessFlags := 25, slot := 4, constantValue := 0 }, { name := "LATIN1", type := .byte, accessFlags := 24, slot := 5, constantValue := 0 }, { name := "UTF16", type := .byte, accessFlags := 24, slot := 6, constantValue := 0 }]
  methods := #[k16m0, k16m1, k16m2]
  instanceTypes := #[(.array .byte), .byte, .int, .boolean]
  staticTypes := #[.long, .boolean, (.array (.object "java/io/ObjectStreamField")), .char, (.object "java/util/Comparator"), .byte, .byte]
  resolved := Array.replicate 1451 none
  statics := some 3 }

def pool17 : Array CpInfo := pool [(6, .class_ 8), (1, u "java/lang/Object"), (0, u "<init>"), (0, u "()V"), (1, .class_ 14), (1, u "java/lang/StringUTF16"), (31, u "$assertionsDisabled"), (0, u "Z"), (13, u "HI_BYTE_SHIFT"), (0, u "I"), (2, u "LO_BYTE_SHIFT"), (49, .methodref 12 116), (0, .nameAndType 117 118), (0, u "compress"), (0, u "([CI[BII)I"), (3, u "([CII)[B"), (138, u "coderFromArrayLen"), (0, u "([BI)B"), (106, .class_ 371), (1, u "java/lang/StringUTF16$LinesSpliterator"), (58, u "MAX_LENGTH"), (196, .class_ 628), (0, u "java/lang/StringUTF16$CodePointsSpliterator"), (0, .class_ 630), (0, u "java/lang/StringUTF16$CharsSpliterator")] 4

def k17m0 : Method := { name := "<init>", desc := "()V", sig := { parameters := [], returnType := none }, accessFlags := 0, code := none }
def k17c1 : Code := { maxStack := 2, maxLocals := 2, code := jdk_52_method_15_code, exceptionTable := #[], attributes := #[] }
def k17m1 : Method := { name := "coderFromArrayLen", desc := "([BI)B", sig := { parameters := [(.array .byte), .int], returnType := some .byte }, accessFlags := 8, code := some k17c1 }
def k17c2 : Code := { maxStack := 5, maxLocals := 6, code := jdk_52_method_16_code, exceptionTable := #[], attributes := #[] }
def k17m2 : Method := { name := "compress", desc := "([CII)[B", sig := { parameters := [(.array .char), .int, .int], returnType := some (.array .byte) }, accessFlags := 9, code := some k17c2 }
def k17c3 : Code := { maxStack := 3, maxLocals := 7, code := jdk_52_method_21_code, exceptionTable := #[], attributes := #[] }
def k17m3 : Method := { name := "compress", desc := "([CI[BII)I", sig := { parameters := [(.array .char), .int, (.array .byte), .int, .int], returnType := some .int }, accessFlags := 9, code := some k17c3 }
/-- java/lang/StringUTF16 -/
def k17 : Class := { plain "java/lang/StringUTF16" (some 0) with
  accessFlags := 48
  interfaces := #[]
  cf := some (fileOf pool17 12 #[.nestMembers #[627, 629, 369]] #[{ accessFlags := 0, nameIndex := 9, descriptorIndex := 10, attributes := #[] }, { accessFlags := 8, nameIndex := 261, descriptorIndex := 262, attributes := #[] }, { accessFlags := 9, nameIndex := 117, descriptorIndex := 122, attributes := #[] }, { accessFlags := 9, nameIndex := 117, descriptorIndex := 118, attributes := #[] }] 48 6 #[] #[{ accessFlags := 26, nameIndex := 61, descriptorIndex := 62, attributes := #[] }, { accessFlags := 26, nameIndex := 65, descriptorIndex := 62, attributes := #[] }, { accessFlags := 24, nameIndex := 430, descriptorIndex := 62, attributes := #[] }, { accessFlags := 4120, nameIndex := 46, descriptorIndex := 47, attributes := #[] }])
  fields := #[{ name := "HI_BYTE_SHIFT", type := .int, accessFlags := 26, slot := 0, constantValue := 0 }, { name := "LO_BYTE_SHIFT", type := .int, accessFlags := 26, slot := 1, constantValue := 0 }, { name := "MAX_LENGTH", type := .int, accessFlags := 24, slot := 2, constantValue := 0 }, { name := "$assertionsDisabled", type := .boolean, accessFlags := 4120, slot := 3, constantValue := 0 }]
  methods := #[k17m0, k17m1, k17m2, k17m3]
  instanceTypes := #[]
  staticTypes := #[.int, .int, .int, .boolean]
  resolved := Array.replicate 635 none
  statics := none }

def pool18 : Array CpInfo := pool [(2, .class_ 4), (1, u "java/lang/Object"), (0, u "<init>"), (0, u "()V"), (35, .class_ 44), (1, u "java/util/Objects"), (0, u "requireNonNull"), (48, u "(Ljava/lang/Object;Ljava/lang/String;)Ljava/lang/Object;")] 89

def k18m0 : Method := { name := "<init>", desc := "()V", sig := { parameters := [], returnType := none }, accessFlags := 2, code := none }
def k18c1 : Code := { maxStack := 3, maxLocals := 2, code := jdk_31_method_11_code, exceptionTable := #[], attributes := #[] }
def k18m1 : Method := { name := "requireNonNull", desc := "(Ljava/lang/Object;Ljava/lang/String;)Ljava/lang/Object;", sig := { parameters := [(.object "java/lang/Object"), (.object "java/lang/String")], returnType := some (.object "java/lang/Object") }, accessFlags := 9, code := some k18c1 }
/-- java/util/Objects -/
def k18 : Class := { plain "java/util/Objects" (some 0) with
  accessFlags := 49
  interfaces := #[]
  cf := some (fileOf pool18 42 #[] #[{ accessFlags := 2, nameIndex := 5, descriptorIndex := 6, attributes := #[] }, { accessFlags := 9, nameIndex := 45, descriptorIndex := 94, attributes := #[] }] 49 2 #[] #[])
  fields := #[]
  methods := #[k18m0, k18m1]
  instanceTypes := #[]
  staticTypes := #[]
  resolved := Array.replicate 184 none
  statics := none }

def pool19 : Array CpInfo := pool [(1, .methodref 2 3), (0, .class_ 4), (0, .nameAndType 5 6), (0, u "java/lang/Object"), (0, u "<init>"), (0, u "()V"), (0, .class_ 8), (0, u "java/lang/Record")] 13

def k19c0 : Code := { maxStack := 1, maxLocals := 1, code := jdk_30_method_1_code, exceptionTable := #[], attributes := #[] }
def k19m0 : Method := { name := "<init>", desc := "()V", sig := { parameters := [], returnType := none }, accessFlags := 4, code := some k19c0 }
/-- java/lang/Record -/
def k19 : Class := { plain "java/lang/Record" (some 0) with
  accessFlags := 1057
  interfaces := #[]
  cf := some (fileOf pool19 7 #[] #[{ accessFlags := 4, nameIndex := 5, descriptorIndex := 6, attributes := #[] }] 1057 2 #[] #[])
  fields := #[]
  methods := #[k19m0]
  instanceTypes := #[]
  staticTypes := #[]
  resolved := Array.replicate 22 none
  statics := none }

def pool20 : Array CpInfo := pool [(1, .methodref 2 3), (0, .class_ 4), (0, .nameAndType 5 6), (0, u "java/lang/Record"), (0, u "<init>"), (0, u "()V"), (0, .fieldref 8 9), (0, .class_ 10), (0, .nameAndType 11 12), (0, u "com/example/inflight/inflight/Outcome"), (0, u "value"), (0, u "Ljava/lang/Object;"), (0, .fieldref 8 14), (0, .nameAndType 15 16), (0, u "failure"), (0, u "Lcom/example/inflight/inflight/ApiException;"), (0, .methodref 8 18), (0, .nameAndType 5 19), (0, u "(Ljava/lang/Object;Lcom/example/inflight/inflight/ApiException;)V"), (0, .string 15), (0, .methodref 22 23), (0, .class_ 24), (0, .nameAndType 25 26), (0, u "java/util/Objects"), (0, u "requireNonNull"), (0, u "(Ljava/lang/Object;Ljava/lang/String;)Ljava/lang/Object;"), (0, .class_ 28), (0, u "com/example/inflight/inflight/ApiException"), (18, u "of"), (0, u "(Ljava/lang/Object;)Lcom/example/inflight/inflight/Outcome;"), (1, u "failed"), (0, u "(Lcom/example/inflight/inflight/ApiException;)Lcom/example/inflight/inflight/Outcome;"), (1, u "isFailed"), (0, u "()Z")] 29

def k20c0 : Code := { maxStack := 2, maxLocals := 3, code := prog_11_method_1_code, exceptionTable := #[], attributes := #[] }
def k20m0 : Method := { name := "<init>", desc := "(Ljava/lang/Object;Lcom/example/inflight/inflight/ApiException;)V", sig := { parameters := [(.object "java/lang/Object"), (.object "com/example/inflight/inflight/ApiException")], returnType := none }, accessFlags := 1, code := some k20c0 }
def k20c1 : Code := { maxStack := 4, maxLocals := 1, code := prog_11_method_2_code, exceptionTable := #[], attributes := #[] }
def k20m1 : Method := { name := "of", desc := "(Ljava/lang/Object;)Lcom/example/inflight/inflight/Outcome;", sig := { parameters := [(.object "java/lang/Object")], returnType := some (.object "com/example/inflight/inflight/Outcome") }, accessFlags := 9, code := some k20c1 }
def k20c2 : Code := { maxStack := 5, maxLocals := 1, code := prog_11_method_3_code, exceptionTable := #[], attributes := #[] }
def k20m2 : Method := { name := "failed", desc := "(Lcom/example/inflight/inflight/ApiException;)Lcom/example/inflight/inflight/Outcome;", sig := { parameters := [(.object "com/example/inflight/inflight/ApiException")], returnType := some (.object "com/example/inflight/inflight/Outcome") }, accessFlags := 9, code := some k20c2 }
def k20c3 : Code := { maxStack := 1, maxLocals := 1, code := prog_11_method_4_code, exceptionTable := #[], attributes := #[] }
def k20m3 : Method := { name := "isFailed", desc := "()Z", sig := { parameters := [], returnType := some .boolean }, accessFlags := 1, code := some k20c3 }
/-- com/example/inflight/inflight/Outcome -/
def k20 : Class := { plain "com/example/inflight/inflight/Outcome" (some 19) with
  accessFlags := 49
  interfaces := #[]
  cf := some (fileOf pool20 8 #[] #[{ accessFlags := 1, nameIndex := 5, descriptorIndex := 19, attributes := #[] }, { accessFlags := 9, nameIndex := 47, descriptorIndex := 48, attributes := #[] }, { accessFlags := 9, nameIndex := 50, descriptorIndex := 51, attributes := #[] }, { accessFlags := 1, nameIndex := 53, descriptorIndex := 54, attributes := #[] }] 49 2 #[] #[{ accessFlags := 18, nameIndex := 11, descriptorIndex := 12, attributes := #[] }, { accessFlags := 18, nameIndex := 15, descriptorIndex := 16, attributes := #[] }])
  fields := #[{ name := "value", type := (.object "java/lang/Object"), accessFlags := 18, slot := 0, constantValue := 0 }, { name := "failure", type := (.object "com/example/inflight/inflight/ApiException"), accessFlags := 18, slot := 1, constantValue := 0 }]
  methods := #[k20m0, k20m1, k20m2, k20m3]
  instanceTypes := #[(.object "java/lang/Object"), (.object "com/example/inflight/inflight/ApiException")]
  staticTypes := #[]
  resolved := Array.replicate 84 none
  statics := none }

def pool21 : Array CpInfo := pool [(4, .class_ 6), (1, u "java/lang/Object"), (0, u "<init>"), (0, u "()V"), (5, .class_ 16), (1, u "java/lang/StringLatin1"), (104, u "$assertionsDisabled"), (0, u "Z"), (98, .class_ 223), (1, u "java/lang/StringLatin1$LinesSpliterator"), (166, .class_ 391), (0, u "java/lang/StringLatin1$CharsSpliterator")] 3

def k21m0 : Method := { name := "<init>", desc := "()V", sig := { parameters := [], returnType := none }, accessFlags := 0, code := none }
/-- java/lang/StringLatin1 -/
def k21 : Class := { plain "java/lang/StringLatin1" (some 0) with
  accessFlags := 48
  interfaces := #[]
  cf := some (fileOf pool21 14 #[.nestMembers #[390, 221]] #[{ accessFlags := 0, nameIndex := 7, descriptorIndex := 8, attributes := #[] }] 48 4 #[] #[{ accessFlags := 4120, nameIndex := 121, descriptorIndex := 122, attributes := #[] }])
  fields := #[{ name := "$assertionsDisabled", type := .boolean, accessFlags := 4120, slot := 0, constantValue := 0 }]
  methods := #[k21m0]
  instanceTypes := #[]
  staticTypes := #[.boolean]
  resolved := Array.replicate 395 none
  statics := none }

def pool22 : Array CpInfo := pool [(2, .class_ 4), (1, u "java/lang/Object"), (0, u "<init>"), (0, u "()V"), (17, .class_ 26), (1, u "jdk/internal/util/Preconditions"), (28, .class_ 56), (0, u "jdk/internal/util/Preconditions$4"), (57, .class_ 115), (0, u "jdk/internal/util/Preconditions$1"), (7, u "SIOOBE_FORMATTER"), (0, u "Ljava/util/function/BiFunction;"), (0, .class_ 126), (0, u "jdk/internal/util/Preconditions$2"), (3, u "AIOOBE_FORMATTER"), (0, .class_ 132), (0, u "jdk/internal/util/Preconditions$3"), (3, u "IOOBE_FORMATTER")] 57

def k22m0 : Method := { name := "<init>", desc := "()V", sig := { parameters := [], returnType := none }, accessFlags := 1, code := none }
/-- jdk/internal/util/Preconditions -/
def k22 : Class := { plain "jdk/internal/util/Preconditions" (some 0) with
  accessFlags := 33
  interfaces := #[]
  cf := some (fileOf pool22 24 #[.nestMembers #[55, 131, 125, 114]] #[{ accessFlags := 1, nameIndex := 5, descriptorIndex := 6, attributes := #[] }] 33 2 #[] #[{ accessFlags := 25, nameIndex := 123, descriptorIndex := 124, attributes := #[] }, { accessFlags := 25, nameIndex := 130, descriptorIndex := 124, attributes := #[] }, { accessFlags := 25, nameIndex := 136, descriptorIndex := 124, attributes := #[] }])
  fields := #[{ name := "SIOOBE_FORMATTER", type := (.object "java/util/function/BiFunction"), accessFlags := 25, slot := 0, constantValue := 0 }, { name := "AIOOBE_FORMATTER", type := (.object "java/util/function/BiFunction"), accessFlags := 25, slot := 1, constantValue := 0 }, { name := "IOOBE_FORMATTER", type := (.object "java/util/function/BiFunction"), accessFlags := 25, slot := 2, constantValue := 0 }]
  methods := #[k22m0]
  instanceTypes := #[]
  staticTypes := #[(.object "java/util/function/BiFunction"), (.object "java/util/function/BiFunction"), (.object "java/util/function/BiFunction")]
  resolved := Array.replicate 194 none
  statics := some 4 }

def pool23 : Array CpInfo := pool [(9, u "<init>"), (6, .class_ 18), (1, u "java/lang/Object"), (0, u "()V"), (1, .class_ 23), (1, u "jdk/internal/util/ArraysSupport"), (0, u "LOG2_ARRAY_LONG_INDEX_SCALE"), (0, u "I"), (2, u "U"), (0, u "Ljdk/internal/misc/Unsafe;"), (8, u "BIG_ENDIAN"), (0, u "Z"), (8, u "LOG2_BYTE_BIT_SIZE"), (4, u "LOG2_ARRAY_INT_INDEX_SCALE"), (54, u "JLA"), (0, u "Ljdk/internal/access/JavaLangAccess;"), (11, u "LOG2_ARRAY_BOOLEAN_INDEX_SCALE"), (9, u "LOG2_ARRAY_BYTE_INDEX_SCALE"), (5, u "LOG2_ARRAY_CHAR_INDEX_SCALE"), (5, u "LOG2_ARRAY_SHORT_INDEX_SCALE"), (18, u "LOG2_ARRAY_FLOAT_INDEX_SCALE"), (24, u "LOG2_ARRAY_DOUBLE_INDEX_SCALE"), (89, u "T_BOOLEAN"), (2, u "T_CHAR"), (1, u "T_FLOAT"), (1, u "T_DOUBLE"), (1, u "T_BYTE"), (1, u "T_SHORT"), (1, u "T_INT"), (1, u "T_LONG"), (1, u "SOFT_MAX_ARRAY_LENGTH")] 83

def k23m0 : Method := { name := "<init>", desc := "()V", sig := { parameters := [], returnType := none }, accessFlags := 2, code := none }
/-- jdk/internal/util/ArraysSupport -/
def k23 : Class := { plain "jdk/internal/util/ArraysSupport" (some 0) with
  accessFlags := 33
  interfaces := #[]
  cf := some (fileOf pool23 21 #[] #[{ accessFlags := 2, nameIndex := 9, descriptorIndex := 19, attributes := #[] }] 33 16 #[] #[{ accessFlags := 24, nameIndex := 28, descriptorIndex := 29, attributes := #[] }, { accessFlags := 26, nameIndex := 38, descriptorIndex := 39, attributes := #[] }, { accessFlags := 25, nameIndex := 121, descriptorIndex := 25, attributes := #[] }, { accessFlags := 25, nameIndex := 131, descriptorIndex := 25, attributes := #[] }, { accessFlags := 25, nameIndex := 137, descriptorIndex := 25, attributes := #[] }, { accessFlags := 25, nameIndex := 143, descriptorIndex := 25, attributes := #[] }, { accessFlags := 25, nameIndex := 53, descriptorIndex := 25, attributes := #[] }, { accessFlags := 25, nameIndex := 24, descriptorIndex := 25, attributes := #[] }, { accessFlags := 25, nameIndex := 162, descriptorIndex := 25, attributes := #[] }, { accessFlags := 25, nameIndex := 187, descriptorIndex := 25, attributes := #[] }, { accessFlags := 26, nameIndex := 48, descriptorIndex := 25, attributes := #[] }, { accessFlags := 25, nameIndex := 277, descriptorIndex := 25, attributes := #[] }, { accessFlags := 25, nameIndex := 280, descriptorIndex := 25, attributes := #[] }, { accessFlags := 25, nameIndex := 282, descriptorIndex := 25, attributes := #[] }, { accessFlags := 25, nameIndex := 284, descriptorIndex := 25, attributes := #[] }, { accessFlags := 25, nameIndex := 286, descriptorIndex := 25, attributes := #[] }, { accessFlags := 25, nameIndex := 288, descriptorIndex := 25, attributes := #[] }, { accessFlags := 25, nameIndex := 290, descriptorIndex := 25, attributes := #[] }, { accessFlags := 25, nameIndex := 292, descriptorIndex := 25, attributes := #[] }, { accessFlags := 26, nameIndex := 108, descriptorIndex := 109, attributes := #[] }, { accessFlags := 25, nameIndex := 294, descriptorIndex := 25, attributes := #[] }])
  fields := #[{ name := "U", type := (.object "jdk/internal/misc/Unsafe"), accessFlags := 24, slot := 0, constantValue := 0 }, { name := "BIG_ENDIAN", type := .boolean, accessFlags := 26, slot := 1, constantValue := 0 }, { name := "LOG2_ARRAY_BOOLEAN_INDEX_SCALE", type := .int, accessFlags := 25, slot := 2, constantValue := 0 }, { name := "LOG2_ARRAY_BYTE_INDEX_SCALE", type := .int, accessFlags := 25, slot := 3, constantValue := 0 }, { name := "LOG2_ARRAY_CHAR_INDEX_SCALE", type := .int, accessFlags := 25, slot := 4, constantValue := 0 }, { name := "LOG2_ARRAY_SHORT_INDEX_SCALE", type := .int, accessFlags := 25, slot := 5, constantValue := 0 }, { name := "LOG2_ARRAY_INT_INDEX_SCALE", type := .int, accessFlags := 25, slot := 6, constantValue := 0 }, { name := "LOG2_ARRAY_LONG_INDEX_SCALE", type := .int, accessFlags := 25, slot := 7, constantValue := 0 }, { name := "LOG2_ARRAY_FLOAT_INDEX_SCALE", type := .int, accessFlags := 25, slot := 8, constantValue := 0 }, { name := "LOG2_ARRAY_DOUBLE_INDEX_SCALE", type := .int, accessFlags := 25, slot := 9, constantValue := 0 }, { name := "LOG2_BYTE_BIT_SIZE", type := .int, accessFlags := 26, slot := 10, constantValue := 0 }, { name := "T_BOOLEAN", type := .int, accessFlags := 25, slot := 11, constantValue := 0 }, { name := "T_CHAR", type := .int, accessFlags := 25, slot := 12, constantValue := 0 }, { name := "T_FLOAT", type := .int, accessFlags := 25, slot := 13, constantValue := 0 }, { name := "T_DOUBLE", type := .int, accessFlags := 25, slot := 14, constantValue := 0 }, { name := "T_BYTE", type := .int, accessFlags := 25, slot := 15, constantValue := 0 }, { name := "T_SHORT", type := .int, accessFlags := 25, slot := 16, constantValue := 0 }, { name := "T_INT", type := .int, accessFlags := 25, slot := 17, constantValue := 0 }, { name := "T_LONG", type := .int, accessFlags := 25, slot := 18, constantValue := 0 }, { name := "JLA", type := (.object "jdk/internal/access/JavaLangAccess"), accessFlags := 26, slot := 19, constantValue := 0 }, { name := "SOFT_MAX_ARRAY_LENGTH", type := .int, accessFlags := 25, slot := 20, constantValue := 0 }]
  methods := #[k23m0]
  instanceTypes := #[]
  staticTypes := #[(.object "jdk/internal/misc/Unsafe"), .boolean, .int, .int, .int, .int, .int, .int, .int, .int, .int, .int, .int, .int, .int, .int, .int, .int, .int, (.object "jdk/internal/access/JavaLangAccess"), .int]
  resolved := Array.replicate 378 none
  statics := none }

def pool24 : Array CpInfo := pool [(2, .class_ 4), (1, u "java/lang/Object"), (0, u "<init>"), (0, u "()V"), (12, .class_ 20), (0, u "java/util/Collections"), (63, u "r"), (0, u "Ljava/util/Random;"), (80, .class_ 167), (0, u "java/util/Collections$UnmodifiableCollection"), (6, .class_ 175), (0, u "java/util/Collections$UnmodifiableSequencedCollection"), (6, .class_ 183), (0, u "java/util/Collections$UnmodifiableSet"), (6, .class_ 191), (0, u "java/util/Collections$UnmodifiableSequencedSet"), (6, .class_ 199), (0, u "java/util/Collections$UnmodifiableSortedSet"), (6, .class_ 207), (0, u "java/util/Collections$UnmodifiableNavigableSet"), (4, .class_ 213), (0, u "java/util/Collections$UnmodifiableList"), (1, .class_ 216), (0, u "java/util/Collections$UnmodifiableRandomAccessList"), (6, .class_ 224), (0, u "java/util/Collections$UnmodifiableMap"), (6, .class_ 232), (0, u "java/util/Collections$UnmodifiableSequencedMap"), (4, .class_ 238), (0, u "java/util/Collections$UnmodifiableSortedMap"), (6, .class_ 246), (0, u "java/util/Collections$UnmodifiableNavigableMap"), (3, .class_ 251), (0, u "java/util/Collections$SynchronizedCollection"), (4, .class_ 257), (0, u "java/util/Collections$SynchronizedSet"), (4, .class_ 263), (0, u "java/util/Collections$SynchronizedSortedSet"), (1, .class_ 266), (0, u "java/util/Collections$SynchronizedNavigableSet"), (1, .class_ 269), (0, u "java/util/Collections$SynchronizedRandomAccessList"), (1, .class_ 272), (0, u "java/util/Collections$SynchronizedList"), (5, .class_ 279), (0, u "java/util/Collections$SynchronizedMap"), (1, .class_ 282), (0, u "java/util/Collections$SynchronizedSortedMap"), (1, .class_ 285), (0, u "java/util/Collections$SynchronizedNavigableMap"), (1, .class_ 288), (0, u "java/util/Collections$CheckedCollection"), (11, .class_ 301), (0, u "java/util/Collections$CheckedQueue"), (3, .class_ 306), (0, u "java/util/Collections$CheckedSet"), (3, .class_ 311), (0, u "java/util/Collections$CheckedSortedSet"), (3, .class_ 316), (0, u "java/util/Collections$CheckedNavigableSet"), (3, .class_ 321), (0, u "java/util/Collections$CheckedRandomAccessList"), (3, .class_ 326), (0, u "java/util/Collections$CheckedList"), (1, .class_ 329), (0, u "java/util/Collections$CheckedMap"), (3, .class_ 334), (0, u "java/util/Collections$CheckedSortedMap"), (3, .class_ 339), (0, u "java/util/Collections$CheckedNavigableMap"), (4, .class_ 346), (1, u "java/util/Collections$EmptyIterator"), (3, .class_ 352), (1, u "java/util/Collections$EmptyListIterator"), (2, .class_ 357), (1, u "java/util/Collections$EmptyEnumeration"), (4, u "EMPTY_SET"), (0, u "Ljava/util/Set;"), (6, u "EMPTY_LIST"), (0, u "Ljava/util/List;"), (2, u "EMPTY_MAP"), (0, u "Ljava/util/Map;"), (4, .class_ 381), (0, u "java/util/Collections$SingletonSet"), (2, .class_ 385), (0, u "java/util/Collections$1"), (1, .class_ 388), (0, u "java/util/Collections$2"), (1, .class_ 391), (0, u "java/util/Collections$SingletonList"), (1, .class_ 394), (0, u "java/util/Collections$SingletonMap"), (22, .class_ 418), (0, u "java/util/Collections$CopiesList"), (4, .class_ 425), (1, u "java/util/Collections$ReverseComparator"), (8, .class_ 435), (0, u "java/util/Collections$ReverseComparator2"), (6, .class_ 443), (0, u "java/util/Collections$3"), (25, .class_ 470), (0, u "java/util/Collections$SetFromMap"), (2, .class_ 474), (0, u "java/util/Collections$SequencedSetFromMap"), (3, .class_ 479), (0, u "java/util/Collections$AsLIFOQueue"), (11, .class_ 492), (0, u "java/util/Collections$EmptySet"), (1, .class_ 495), (0, u "java/util/Collections$EmptyList"), (1, .class_ 498), (0, u "java/util/Collections$EmptyMap"), (1, u "BINARYSEARCH_THRESHOLD"), (0, u "I"), (2, u "REVERSE_THRESHOLD"), (1, u "SHUFFLE_THRESHOLD"), (1, u "FILL_THRESHOLD"), (1, u "ROTATE_THRESHOLD"), (1, u "COPY_THRESHOLD"), (1, u "REPLACEALL_THRESHOLD"), (1, u "INDEXOFSUBLIST_THRESHOLD"), (333, .class_ 851), (0, u "java/util/Collections$CheckedMap$CheckedEntrySet"), (0, .class_ 853), (0, u "java/util/Collections$CheckedMap$CheckedEntrySet$CheckedEntry"), (0, .class_ 855), (0, u "java/util/Collections$CheckedMap$CheckedEntrySet$1"), (0, .class_ 857), (0, u "java/util/Collections$CheckedList$1"), (0, .class_ 859), (0, u "java/util/Collections$CheckedCollection$1"), (0, .class_ 861), (0, u "java/util/Collections$UnmodifiableNavigableMap$EmptyNavigableMap"), (0, .class_ 863), (0, u "java/util/Collections$UnmodifiableMap$UnmodifiableEntrySet"), (0, .class_ 865), (0, u "java/util/Collections$UnmodifiableMap$UnmodifiableEntrySet$UnmodifiableEntry"), (0, .class_ 867), (0, u "java/util/Collections$UnmodifiableMap$UnmodifiableEntrySet$UnmodifiableEntrySetSpliterator"), (0, .class_ 869), (0, u "java/util/Collections$UnmodifiableMap$UnmodifiableEntrySet$1"), (0, .class_ 871), (0, u "java/util/Collections$UnmodifiableList$1"), (0, .class_ 873), (0, u "java/util/Collections$UnmodifiableNavigableSet$EmptyNavigableSet"), (0, .class_ 875), (0, u "java/util/Collections$UnmodifiableCollection$1")] 57

def k24m0 : Method := { name := "<init>", desc := "()V", sig := { parameters := [], returnType := none }, accessFlags := 2, code := none }
/-- java/util/Collections -/
def k24 : Class := { plain "java/util/Collections" (some 0) with
  accessFlags := 33
  interfaces := #[]
  cf := some (fileOf pool24 19 #[.nestMembers #[478, 473, 469, 434, 423, 417, 393, 390, 380, 497, 494, 491, 355, 350, 344, 338, 333, 328, 850, 852, 854, 320, 325, 856, 315, 310, 305, 300, 287, 858, 284, 281, 278, 268, 271, 265, 262, 256, 250, 245, 860, 237, 231, 223, 862, 864, 866, 868, 215, 212, 870, 206, 872, 198, 190, 182, 174, 166, 874, 442, 387, 384]] #[{ accessFlags := 2, nameIndex := 5, descriptorIndex := 6, attributes := #[] }] 33 2 #[] #[{ accessFlags := 26, nameIndex := 500, descriptorIndex := 501, attributes := #[] }, { accessFlags := 26, nameIndex := 504, descriptorIndex := 501, attributes := #[] }, { accessFlags := 26, nameIndex := 506, descriptorIndex := 501, attributes := #[] }, { accessFlags := 26, nameIndex := 508, descriptorIndex := 501, attributes := #[] }, { accessFlags := 26, nameIndex := 510, descriptorIndex := 501, attributes := #[] }, { accessFlags := 26, nameIndex := 512, descriptorIndex := 501, attributes := #[] }, { accessFlags := 26, nameIndex := 514, descriptorIndex := 501, attributes := #[] }, { accessFlags := 26, nameIndex := 516, descriptorIndex := 501, attributes := #[] }, { accessFlags := 10, nameIndex := 84, descriptorIndex := 85, attributes := #[] }, { accessFlags := 25, nameIndex := 362, descriptorIndex := 363, attributes := #[] }, { accessFlags := 25, nameIndex := 370, descriptorIndex := 371, attributes := #[] }, { accessFlags := 25, nameIndex := 374, descriptorIndex := 375, attributes := #[] }])
  fields := #[{ name := "BINARYSEARCH_THRESHOLD", type := .int, accessFlags := 26, slot := 0, constantValue := 0 }, { name := "REVERSE_THRESHOLD", type := .int, accessFlags := 26, slot := 1, constantValue := 0 }, { name := "SHUFFLE_THRESHOLD", type := .int, accessFlags := 26, slot := 2, constantValue := 0 }, { name := "FILL_THRESHOLD", type := .int, accessFlags := 26, slot := 3, constantValue := 0 }, { name := "ROTATE_THRESHOLD", type := .int, accessFlags := 26, slot := 4, constantValue := 0 }, { name := "COPY_THRESHOLD", type := .int, accessFlags := 26, slot := 5, constantValue := 0 }, { name := "REPLACEALL_THRESHOLD", type := .int, accessFlags := 26, slot := 6, constantValue := 0 }, { name := "INDEXOFSUBLIST_THRESHOLD", type := .int, accessFlags := 26, slot := 7, constantValue := 0 }, { name := "r", type := (.object "java/util/Random"), accessFlags := 10, slot := 8, constantValue := 0 }, { name := "EMPTY_SET", type := (.object "java/util/Set"), accessFlags := 25, slot := 9, constantValue := 0 }, { name := "EMPTY_LIST", type := (.object "java/util/List"), accessFlags := 25, slot := 10, constantValue := 0 }, { name := "EMPTY_MAP", type := (.object "java/util/Map"), accessFlags := 25, slot := 11, constantValue := 0 }]
  methods := #[k24m0]
  instanceTypes := #[]
  staticTypes := #[.int, .int, .int, .int, .int, .int, .int, .int, (.object "java/util/Random"), (.object "java/util/Set"), (.object "java/util/List"), (.object "java/util/Map")]
  resolved := Array.replicate 933 none
  statics := some 5 }

def pool25 : Array CpInfo := pool [(8, .class_ 10), (1, u "java/lang/Iterable"), (24, .class_ 36), (0, u "java/lang/Object")] 25

/-- java/lang/Iterable -/
def k25 : Class := { plain "java/lang/Iterable" (some 0) with
  accessFlags := 1537
  interfaces := #[]
  cf := some (fileOf pool25 8 #[] #[] 1537 35 #[] #[])
  fields := #[]
  methods := #[]
  instanceTypes := #[]
  staticTypes := #[]
  resolved := Array.replicate 62 none
  statics := none }

def pool26 : Array CpInfo := pool [(10, .class_ 12), (1, u "java/util/Collection"), (47, .class_ 61), (0, u "java/lang/Object"), (0, .class_ 63), (0, u "java/lang/Iterable")] 51

/-- java/util/Collection -/
def k26 : Class := { plain "java/util/Collection" (some 0) with
  accessFlags := 1537
  interfaces := #[25]
  cf := some (fileOf pool26 10 #[] #[] 1537 60 #[62] #[])
  fields := #[]
  methods := #[]
  instanceTypes := #[]
  staticTypes := #[]
  resolved := Array.replicate 115 none
  statics := none }

def pool27 : Array CpInfo := pool [(2, .class_ 4), (1, u "java/lang/Object"), (0, u "<init>"), (0, u "()V"), (1, .class_ 10), (1, u "java/util/AbstractCollection"), (66, .class_ 78), (0, u "java/util/Collection")] 81

def k27m0 : Method := { name := "<init>", desc := "()V", sig := { parameters := [], returnType := none }, accessFlags := 4, code := none }
/-- java/util/AbstractCollection -/
def k27 : Class := { plain "java/util/AbstractCollection" (some 0) with
  accessFlags := 1057
  interfaces := #[26]
  cf := some (fileOf pool27 8 #[] #[{ accessFlags := 4, nameIndex := 5, descriptorIndex := 6, attributes := #[] }] 1057 2 #[77] #[])
  fields := #[]
  methods := #[k27m0]
  instanceTypes := #[]
  staticTypes := #[]
  resolved := Array.replicate 160 none
  statics := none }

def pool28 : Array CpInfo := pool [(8, .class_ 10), (1, u "java/util/SequencedCollection"), (15, .class_ 27), (0, u "java/lang/Object"), (0, .class_ 29), (0, u "java/util/Collection")] 27

/-- java/util/SequencedCollection -/
def k28 : Class := { plain "java/util/SequencedCollection" (some 0) with
  accessFlags := 1537
  interfaces := #[26]
  cf := some (fileOf pool28 8 #[] #[] 1537 26 #[28] #[])
  fields := #[]
  methods := #[]
  instanceTypes := #[]
  staticTypes := #[]
  resolved := Array.replicate 57 none
  statics := none }

def pool29 : Array CpInfo := pool [(8, .class_ 10), (1, u "java/util/List"), (92, .class_ 104), (0, u "java/lang/Object"), (15, .class_ 121), (0, u "java/util/SequencedCollection")] 129

/-- java/util/List -/
def k29 : Class := { plain "java/util/List" (some 0) with
  accessFlags := 1537
  interfaces := #[28]
  cf := some (fileOf pool29 8 #[] #[] 1537 103 #[120] #[])
  fields := #[]
  methods := #[]
  instanceTypes := #[]
  staticTypes := #[]
  resolved := Array.replicate 251 none
  statics := none }

def pool30 : Array CpInfo := pool [(2, .class_ 4), (1, u "java/util/AbstractCollection"), (0, u "<init>"), (0, u "()V"), (1, .class_ 10), (1, u "java/util/AbstractList"), (0, u "modCount"), (0, u "I"), (64, .class_ 78), (0, u "java/util/AbstractList$Itr"), (3, .class_ 83), (0, u "java/util/AbstractList$ListItr"), (9, .class_ 94), (0, u "java/util/AbstractList$RandomAccessSubList"), (3, .class_ 99), (0, u "java/util/AbstractList$SubList"), (33, .class_ 134), (0, u "java/util/List"), (73, .class_ 209), (0, u "java/util/AbstractList$SubList$1"), (0, .class_ 211), (0, u "java/util/AbstractList$RandomAccessSpliterator")] 6

def k30m0 : Method := { name := "<init>", desc := "()V", sig := { parameters := [], returnType := none }, accessFlags := 4, code := none }
/-- java/util/AbstractList -/
def k30 : Class := { plain "java/util/AbstractList" (some 27) with
  accessFlags := 1057
  interfaces := #[29]
  cf := some (fileOf pool30 8 #[.nestMembers #[93, 98, 208, 210, 82, 77]] #[{ accessFlags := 4, nameIndex := 5, descriptorIndex := 6, attributes := #[] }] 1057 2 #[133] #[{ accessFlags := 132, nameIndex := 11, descriptorIndex := 12, attributes := #[] }])
  fields := #[{ name := "modCount", type := .int, accessFlags := 132, slot := 0, constantValue := 0 }]
  methods := #[k30m0]
  instanceTypes := #[.int]
  staticTypes := #[]
  resolved := Array.replicate 218 none
  statics := none }

def pool31 : Array CpInfo := pool [(1, .class_ 2), (0, u "java/util/RandomAccess"), (0, .class_ 4), (0, u "java/lang/Object")] 2

/-- java/util/RandomAccess -/
def k31 : Class := { plain "java/util/RandomAccess" (some 0) with
  accessFlags := 1537
  interfaces := #[]
  cf := some (fileOf pool31 1 #[] #[] 1537 3 #[] #[])
  fields := #[]
  methods := #[]
  instanceTypes := #[]
  staticTypes := #[]
  resolved := Array.replicate 7 none
  statics := none }

def pool32 : Array CpInfo := pool [(2, .class_ 4), (1, u "java/util/AbstractList"), (0, u "<init>"), (0, u "()V"), (1, .class_ 10), (1, u "java/util/Collections"), (54, .class_ 66), (0, u "java/util/Collections$EmptyList"), (0, .class_ 68), (0, u "java/util/RandomAccess"), (0, .class_ 70), (0, u "java/io/Serializable"), (0, u "serialVersionUID"), (0, u "J")] 77

def k32m0 : Method := { name := "<init>", desc := "()V", sig := { parameters := [], returnType := none }, accessFlags := 2, code := none }
/-- java/util/Collections$EmptyList -/
def k32 : Class := { plain "java/util/Collections$EmptyList" (some 30) with
  accessFlags := 32
  interfaces := #[31, 2]
  cf := some (fileOf pool32 65 #[.nestHost 8] #[{ accessFlags := 2, nameIndex := 5, descriptorIndex := 6, attributes := #[] }] 32 2 #[67, 69] #[{ accessFlags := 26, nameIndex := 71, descriptorIndex := 72, attributes := #[] }])
  fields := #[{ name := "serialVersionUID", type := .long, accessFlags := 26, slot := 0, constantValue := 0 }]
  methods := #[k32m0]
  instanceTypes := #[.int]
  staticTypes := #[.long]
  resolved := Array.replicate 150 none
  statics := none }

def pool33 : Array CpInfo := pool [(2, .class_ 4), (1, u "java/lang/StackTraceElement"), (0, u "<init>"), (2, .class_ 10), (1, u "java/lang/Object"), (0, u "()V"), (2, u "format"), (0, u "B"), (2, u "classLoaderName"), (0, u "Ljava/lang/String;"), (2, u "moduleName"), (2, u "moduleVersion"), (12, u "declaringClass"), (4, u "methodName"), (2, u "fileName"), (2, u "lineNumber"), (0, u "I"), (65, u "declaringClassObject"), (0, u "Ljava/lang/Class;"), (33, .class_ 153), (1, u "java/lang/StackTraceElement$HashedModules"), (17, .class_ 172), (0, u "java/io/Serializable"), (0, u "NATIVE_METHOD"), (1, u "UNKNOWN_SOURCE"), (2, u "BUILTIN_CLASS_LOADER"), (1, u "JDK_NON_UPGRADEABLE_MODULE"), (1, u "serialVersionUID"), (0, u "J")] 51

def k33m0 : Method := { name := "<init>", desc := "()V", sig := { parameters := [], returnType := none }, accessFlags := 2, code := none }
/-- java/lang/StackTraceElement -/
def k33 : Class := { plain "java/lang/StackTraceElement" (some 0) with
  accessFlags := 49
  interfaces := #[2]
  cf := some (fileOf pool33 2 #[.nestMembers #[151]] #[{ accessFlags := 2, nameIndex := 5, descriptorIndex := 11, attributes := #[] }] 49 8 #[171] #[{ accessFlags := 26, nameIndex := 173, descriptorIndex := 19, attributes := #[] }, { accessFlags := 26, nameIndex := 175, descriptorIndex := 19, attributes := #[] }, { accessFlags := 130, nameIndex := 116, descriptorIndex := 117, attributes := #[] }, { accessFlags := 2, nameIndex := 18, descriptorIndex := 19, attributes := #[] }, { accessFlags := 2, nameIndex := 22, descriptorIndex := 19, attributes := #[] }, { accessFlags := 2, nameIndex := 25, descriptorIndex := 19, attributes := #[] }, { accessFlags := 2, nameIndex := 38, descriptorIndex := 19, attributes := #[] }, { accessFlags := 2, nameIndex := 43, descriptorIndex := 19, attributes := #[] }, { accessFlags := 2, nameIndex := 46, descriptorIndex := 19, attributes := #[] }, { accessFlags := 2, nameIndex := 49, descriptorIndex := 50, attributes := #[] }, { accessFlags := 2, nameIndex := 14, descriptorIndex := 15, attributes := #[] }, { accessFlags := 26, nameIndex := 178, descriptorIndex := 15, attributes := #[] }, { accessFlags := 26, nameIndex := 180, descriptorIndex := 15, attributes := #[] }, { accessFlags := 26, nameIndex := 182, descriptorIndex := 183, attributes := #[] }])
  fields := #[{ name := "NATIVE_METHOD", type := (.object "java/lang/String"), accessFlags := 26, slot := 0, constantValue := 0 }, { name := "UNKNOWN_SOURCE", type := (.object "java/lang/String"), accessFlags := 26, slot := 1, constantValue := 0 }, { name := "declaringClassObject", type := (.object "java/lang/Class"), accessFlags := 130, slot := 0, constantValue := 0 }, { name := "classLoaderName", type := (.object "java/lang/String"), accessFlags := 2, slot := 1, constantValue := 0 }, { name := "moduleName", type := (.object "java/lang/String"), accessFlags := 2, slot := 2, constantValue := 0 }, { name := "moduleVersion", type := (.object "java/lang/String"), accessFlags := 2, slot := 3, constantValue := 0 }, { name := "declaringClass", type := (.object "java/lang/String"), accessFlags := 2, slot := 4, constantValue := 0 }, { name := "methodName", type := (.object "java/lang/String"), accessFlags := 2, slot := 5, constantValue := 0 }, { name := "fileName", type := (.object "java/lang/String"), accessFlags := 2, slot := 6, constantValue := 0 }, { name := "lineNumber", type := .int, accessFlags := 2, slot := 7, constantValue := 0 }, { name := "format", type := .byte, accessFlags := 2, slot := 8, constantValue := 0 }, { name := "BUILTIN_CLASS_LOADER", type := .byte, accessFlags := 26, slot := 2, constantValue := 0 }, { name := "JDK_NON_UPGRADEABLE_MODULE", type := .byte, accessFlags := 26, slot := 3, constantValue := 0 }, { name := "serialVersionUID", type := .long, accessFlags := 26, slot := 4, constantValue := 0 }]
  methods := #[k33m0]
  instanceTypes := #[(.object "java/lang/Class"), (.object "java/lang/String"), (.object "java/lang/String"), (.object "java/lang/String"), (.object "java/lang/String"), (.object "java/lang/String"), (.object "java/lang/String"), .int, .byte]
  staticTypes := #[(.object "java/lang/String"), (.object "java/lang/String"), .byte, .byte, .long]
  resolved := Array.replicate 235 none
  statics := none }

def pool34 : Array CpInfo := pool [(1, u "java/lang/Cloneable"), (0, .class_ 1), (0, u "java/lang/Object"), (0, .class_ 3)] 3

/-- java/lang/Cloneable -/
def k34 : Class := { plain "java/lang/Cloneable" (some 0) with
  accessFlags := 1537
  interfaces := #[]
  cf := some (fileOf pool34 2 #[] #[] 1537 4 #[] #[])
  fields := #[]
  methods := #[]
  instanceTypes := #[]
  staticTypes := #[]
  resolved := Array.replicate 8 none
  statics := none }

/-- the primitive byte -/
def k35 : Class := { plain "byte" none with kind := .primitive 'B', accessFlags := 0x411 }
/-- [B -/
def k36 : Class := { plain "[B" (some 0) with kind := .array 35 .byte, interfaces := #[34, 2], accessFlags := 1041 }

/-- the primitive char -/
def k37 : Class := { plain "char" none with kind := .primitive 'C', accessFlags := 0x411 }
/-- [C -/
def k38 : Class := { plain "[C" (some 0) with kind := .array 37 .char, interfaces := #[34, 2], accessFlags := 1041 }

/-- the primitive int -/
def k39 : Class := { plain "int" none with kind := .primitive 'I', accessFlags := 0x411 }
/-- [I -/
def k40 : Class := { plain "[I" (some 0) with kind := .array 39 .int, interfaces := #[34, 2], accessFlags := 1041 }

/-- [Ljava/lang/Integer; -/
def k41 : Class := { plain "[Ljava/lang/Integer;" (some 0) with kind := .array 7 (.object "java/lang/Integer"), interfaces := #[34, 2], accessFlags := 1041 }

/-- [Ljava/lang/Object; -/
def k42 : Class := { plain "[Ljava/lang/Object;" (some 0) with kind := .array 0 (.object "java/lang/Object"), interfaces := #[34, 2], accessFlags := 1041 }

/-- [Ljava/lang/StackTraceElement; -/
def k43 : Class := { plain "[Ljava/lang/StackTraceElement;" (some 0) with kind := .array 33 (.object "java/lang/StackTraceElement"), interfaces := #[34, 2], accessFlags := 1041 }

/-- [Ljava/lang/Throwable; -/
def k44 : Class := { plain "[Ljava/lang/Throwable;" (some 0) with kind := .array 9 (.object "java/lang/Throwable"), interfaces := #[34, 2], accessFlags := 1041 }

def heap : Heap := #[{ cls := 8, slots := #[.int 0, .int 127, .ref 6, .null, .int 0], vm := .statics 8 },
  { cls := 9, slots := #[.long 0, .ref 264, .ref 265, .null, .null, .null, .null, .ref 266, .int 1], vm := .statics 9 },
  { cls := 14, slots := #[.null, .null, .null, .null, .null, .ref 263, .null, .null, .null, .null, .null, .null, .null, .null, .null, .null, .null, .null, .null, .null, .null, .null, .null], vm := .statics 14 },
  { cls := 16, slots := #[.long 0, .int 1, .null, .int 0, .null, .int 0, .int 0], vm := .statics 16 },
  { cls := 22, slots := #[.null, .null, .null], vm := .statics 22 },
  { cls := 24, slots := #[.int 0, .int 0, .int 0, .int 0, .int 0, .int 0, .int 0, .int 0, .null, .null, .ref 265, .null], vm := .statics 24 },
  { cls := 41, slots := #[.ref 7, .ref 8, .ref 9, .ref 10, .ref 11, .ref 12, .ref 13, .ref 14, .ref 15, .ref 16, .ref 17, .ref 18, .ref 19, .ref 20, .ref 21, .ref 22, .ref 23, .ref 24, .ref 25, .ref 26, .ref 27, .ref 28, .ref 29, .ref 30, .ref 31, .ref 32, .ref 33, .ref 34, .ref 35, .ref 36, .ref 37, .ref 38, .ref 39, .ref 40, .ref 41, .ref 42, .ref 43, .ref 44, .ref 45, .ref 46, .ref 47, .ref 48, .ref 49, .ref 50, .ref 51, .ref 52, .ref 53, .ref 54, .ref 55, .ref 56, .ref 57, .ref 58, .ref 59, .ref 60, .ref 61, .ref 62, .ref 63, .ref 64, .ref 65, .ref 66, .ref 67, .ref 68, .ref 69, .ref 70, .ref 71, .ref 72, .ref 73, .ref 74, .ref 75, .ref 76, .ref 77, .ref 78, .ref 79, .ref 80, .ref 81, .ref 82, .ref 83, .ref 84, .ref 85, .ref 86, .ref 87, .ref 88, .ref 89, .ref 90, .ref 91, .ref 92, .ref 93, .ref 94, .ref 95, .ref 96, .ref 97, .ref 98, .ref 99, .ref 100, .ref 101, .ref 102, .ref 103, .ref 104, .ref 105, .ref 106, .ref 107, .ref 108, .ref 109, .ref 110, .ref 111, .ref 112, .ref 113, .ref 114, .ref 115, .ref 116, .ref 117, .ref 118, .ref 119, .ref 120, .ref 121, .ref 122, .ref 123, .ref 124, .ref 125, .ref 126, .ref 127, .ref 128, .ref 129, .ref 130, .ref 131, .ref 132, .ref 133, .ref 134, .ref 135, .ref 136, .ref 137, .ref 138, .ref 139, .ref 140, .ref 141, .ref 142, .ref 143, .ref 144, .ref 145, .ref 146, .ref 147, .ref 148, .ref 149, .ref 150, .ref 151, .ref 152, .ref 153, .ref 154, .ref 155, .ref 156, .ref 157, .ref 158, .ref 159, .ref 160, .ref 161, .ref 162, .ref 163, .ref 164, .ref 165, .ref 166, .ref 167, .ref 168, .ref 169, .ref 170, .ref 171, .ref 172, .ref 173, .ref 174, .ref 175, .ref 176, .ref 177, .ref 178, .ref 179, .ref 180, .ref 181, .ref 182, .ref 183, .ref 184, .ref 185, .ref 186, .ref 187, .ref 188, .ref 189, .ref 190, .ref 191, .ref 192, .ref 193, .ref 194, .ref 195, .ref 196, .ref 197, .ref 198, .ref 199, .ref 200, .ref 201, .ref 202, .ref 203, .ref 204, .ref 205, .ref 206, .ref 207, .ref 208, .ref 209, .ref 210, .ref 211, .ref 212, .ref 213, .ref 214, .ref 215, .ref 216, .ref 217, .ref 218, .ref 219, .ref 220, .ref 221, .ref 222, .ref 223, .ref 224, .ref 225, .ref 226, .ref 227, .ref 228, .ref 229, .ref 230, .ref 231, .ref 232, .ref 233, .ref 234, .ref 235, .ref 236, .ref 237, .ref 238, .ref 239, .ref 240, .ref 241, .ref 242, .ref 243, .ref 244, .ref 245, .ref 246, .ref 247, .ref 248, .ref 249, .ref 250, .ref 251, .ref 252, .ref 253, .ref 254, .ref 255, .ref 256, .ref 257, .ref 258, .ref 259, .ref 260, .ref 261, .ref 262], vm := .none },
  { cls := 7, slots := #[.int (-128)], vm := .none },
  { cls := 7, slots := #[.int (-127)], vm := .none },
  { cls := 7, slots := #[.int (-126)], vm := .none },
  { cls := 7, slots := #[.int (-125)], vm := .none },
  { cls := 7, slots := #[.int (-124)], vm := .none },
  { cls := 7, slots := #[.int (-123)], vm := .none },
  { cls := 7, slots := #[.int (-122)], vm := .none },
  { cls := 7, slots := #[.int (-121)], vm := .none },
  { cls := 7, slots := #[.int (-120)], vm := .none },
  { cls := 7, slots := #[.int (-119)], vm := .none },
  { cls := 7, slots := #[.int (-118)], vm := .none },
  { cls := 7, slots := #[.int (-117)], vm := .none },
  { cls := 7, slots := #[.int (-116)], vm := .none },
  { cls := 7, slots := #[.int (-115)], vm := .none },
  { cls := 7, slots := #[.int (-114)], vm := .none },
  { cls := 7, slots := #[.int (-113)], vm := .none },
  { cls := 7, slots := #[.int (-112)], vm := .none },
  { cls := 7, slots := #[.int (-111)], vm := .none },
  { cls := 7, slots := #[.int (-110)], vm := .none },
  { cls := 7, slots := #[.int (-109)], vm := .none },
  { cls := 7, slots := #[.int (-108)], vm := .none },
  { cls := 7, slots := #[.int (-107)], vm := .none },
  { cls := 7, slots := #[.int (-106)], vm := .none },
  { cls := 7, slots := #[.int (-105)], vm := .none },
  { cls := 7, slots := #[.int (-104)], vm := .none },
  { cls := 7, slots := #[.int (-103)], vm := .none },
  { cls := 7, slots := #[.int (-102)], vm := .none },
  { cls := 7, slots := #[.int (-101)], vm := .none },
  { cls := 7, slots := #[.int (-100)], vm := .none },
  { cls := 7, slots := #[.int (-99)], vm := .none },
  { cls := 7, slots := #[.int (-98)], vm := .none },
  { cls := 7, slots := #[.int (-97)], vm := .none },
  { cls := 7, slots := #[.int (-96)], vm := .none },
  { cls := 7, slots := #[.int (-95)], vm := .none },
  { cls := 7, slots := #[.int (-94)], vm := .none },
  { cls := 7, slots := #[.int (-93)], vm := .none },
  { cls := 7, slots := #[.int (-92)], vm := .none },
  { cls := 7, slots := #[.int (-91)], vm := .none },
  { cls := 7, slots := #[.int (-90)], vm := .none },
  { cls := 7, slots := #[.int (-89)], vm := .none },
  { cls := 7, slots := #[.int (-88)], vm := .none },
  { cls := 7, slots := #[.int (-87)], vm := .none },
  { cls := 7, slots := #[.int (-86)], vm := .none },
  { cls := 7, slots := #[.int (-85)], vm := .none },
  { cls := 7, slots := #[.int (-84)], vm := .none },
  { cls := 7, slots := #[.int (-83)], vm := .none },
  { cls := 7, slots := #[.int (-82)], vm := .none },
  { cls := 7, slots := #[.int (-81)], vm := .none },
  { cls := 7, slots := #[.int (-80)], vm := .none },
  { cls := 7, slots := #[.int (-79)], vm := .none },
  { cls := 7, slots := #[.int (-78)], vm := .none },
  { cls := 7, slots := #[.int (-77)], vm := .none },
  { cls := 7, slots := #[.int (-76)], vm := .none },
  { cls := 7, slots := #[.int (-75)], vm := .none },
  { cls := 7, slots := #[.int (-74)], vm := .none },
  { cls := 7, slots := #[.int (-73)], vm := .none },
  { cls := 7, slots := #[.int (-72)], vm := .none },
  { cls := 7, slots := #[.int (-71)], vm := .none },
  { cls := 7, slots := #[.int (-70)], vm := .none },
  { cls := 7, slots := #[.int (-69)], vm := .none },
  { cls := 7, slots := #[.int (-68)], vm := .none },
  { cls := 7, slots := #[.int (-67)], vm := .none },
  { cls := 7, slots := #[.int (-66)], vm := .none },
  { cls := 7, slots := #[.int (-65)], vm := .none },
  { cls := 7, slots := #[.int (-64)], vm := .none },
  { cls := 7, slots := #[.int (-63)], vm := .none },
  { cls := 7, slots := #[.int (-62)], vm := .none },
  { cls := 7, slots := #[.int (-61)], vm := .none },
  { cls := 7, slots := #[.int (-60)], vm := .none },
  { cls := 7, slots := #[.int (-59)], vm := .none },
  { cls := 7, slots := #[.int (-58)], vm := .none },
  { cls := 7, slots := #[.int (-57)], vm := .none },
  { cls := 7, slots := #[.int (-56)], vm := .none },
  { cls := 7, slots := #[.int (-55)], vm := .none },
  { cls := 7, slots := #[.int (-54)], vm := .none },
  { cls := 7, slots := #[.int (-53)], vm := .none },
  { cls := 7, slots := #[.int (-52)], vm := .none },
  { cls := 7, slots := #[.int (-51)], vm := .none },
  { cls := 7, slots := #[.int (-50)], vm := .none },
  { cls := 7, slots := #[.int (-49)], vm := .none },
  { cls := 7, slots := #[.int (-48)], vm := .none },
  { cls := 7, slots := #[.int (-47)], vm := .none },
  { cls := 7, slots := #[.int (-46)], vm := .none },
  { cls := 7, slots := #[.int (-45)], vm := .none },
  { cls := 7, slots := #[.int (-44)], vm := .none },
  { cls := 7, slots := #[.int (-43)], vm := .none },
  { cls := 7, slots := #[.int (-42)], vm := .none },
  { cls := 7, slots := #[.int (-41)], vm := .none },
  { cls := 7, slots := #[.int (-40)], vm := .none },
  { cls := 7, slots := #[.int (-39)], vm := .none },
  { cls := 7, slots := #[.int (-38)], vm := .none },
  { cls := 7, slots := #[.int (-37)], vm := .none },
  { cls := 7, slots := #[.int (-36)], vm := .none },
  { cls := 7, slots := #[.int (-35)], vm := .none },
  { cls := 7, slots := #[.int (-34)], vm := .none },
  { cls := 7, slots := #[.int (-33)], vm := .none },
  { cls := 7, slots := #[.int (-32)], vm := .none },
  { cls := 7, slots := #[.int (-31)], vm := .none },
  { cls := 7, slots := #[.int (-30)], vm := .none },
  { cls := 7, slots := #[.int (-29)], vm := .none },
  { cls := 7, slots := #[.int (-28)], vm := .none },
  { cls := 7, slots := #[.int (-27)], vm := .none },
  { cls := 7, slots := #[.int (-26)], vm := .none },
  { cls := 7, slots := #[.int (-25)], vm := .none },
  { cls := 7, slots := #[.int (-24)], vm := .none },
  { cls := 7, slots := #[.int (-23)], vm := .none },
  { cls := 7, slots := #[.int (-22)], vm := .none },
  { cls := 7, slots := #[.int (-21)], vm := .none },
  { cls := 7, slots := #[.int (-20)], vm := .none },
  { cls := 7, slots := #[.int (-19)], vm := .none },
  { cls := 7, slots := #[.int (-18)], vm := .none },
  { cls := 7, slots := #[.int (-17)], vm := .none },
  { cls := 7, slots := #[.int (-16)], vm := .none },
  { cls := 7, slots := #[.int (-15)], vm := .none },
  { cls := 7, slots := #[.int (-14)], vm := .none },
  { cls := 7, slots := #[.int (-13)], vm := .none },
  { cls := 7, slots := #[.int (-12)], vm := .none },
  { cls := 7, slots := #[.int (-11)], vm := .none },
  { cls := 7, slots := #[.int (-10)], vm := .none },
  { cls := 7, slots := #[.int (-9)], vm := .none },
  { cls := 7, slots := #[.int (-8)], vm := .none },
  { cls := 7, slots := #[.int (-7)], vm := .none },
  { cls := 7, slots := #[.int (-6)], vm := .none },
  { cls := 7, slots := #[.int (-5)], vm := .none },
  { cls := 7, slots := #[.int (-4)], vm := .none },
  { cls := 7, slots := #[.int (-3)], vm := .none },
  { cls := 7, slots := #[.int (-2)], vm := .none },
  { cls := 7, slots := #[.int (-1)], vm := .none },
  { cls := 7, slots := #[.int 0], vm := .none },
  { cls := 7, slots := #[.int 1], vm := .none },
  { cls := 7, slots := #[.int 2], vm := .none },
  { cls := 7, slots := #[.int 3], vm := .none },
  { cls := 7, slots := #[.int 4], vm := .none },
  { cls := 7, slots := #[.int 5], vm := .none },
  { cls := 7, slots := #[.int 6], vm := .none },
  { cls := 7, slots := #[.int 7], vm := .none },
  { cls := 7, slots := #[.int 8], vm := .none },
  { cls := 7, slots := #[.int 9], vm := .none },
  { cls := 7, slots := #[.int 10], vm := .none },
  { cls := 7, slots := #[.int 11], vm := .none },
  { cls := 7, slots := #[.int 12], vm := .none },
  { cls := 7, slots := #[.int 13], vm := .none },
  { cls := 7, slots := #[.int 14], vm := .none },
  { cls := 7, slots := #[.int 15], vm := .none },
  { cls := 7, slots := #[.int 16], vm := .none },
  { cls := 7, slots := #[.int 17], vm := .none },
  { cls := 7, slots := #[.int 18], vm := .none },
  { cls := 7, slots := #[.int 19], vm := .none },
  { cls := 7, slots := #[.int 20], vm := .none },
  { cls := 7, slots := #[.int 21], vm := .none },
  { cls := 7, slots := #[.int 22], vm := .none },
  { cls := 7, slots := #[.int 23], vm := .none },
  { cls := 7, slots := #[.int 24], vm := .none },
  { cls := 7, slots := #[.int 25], vm := .none },
  { cls := 7, slots := #[.int 26], vm := .none },
  { cls := 7, slots := #[.int 27], vm := .none },
  { cls := 7, slots := #[.int 28], vm := .none },
  { cls := 7, slots := #[.int 29], vm := .none },
  { cls := 7, slots := #[.int 30], vm := .none },
  { cls := 7, slots := #[.int 31], vm := .none },
  { cls := 7, slots := #[.int 32], vm := .none },
  { cls := 7, slots := #[.int 33], vm := .none },
  { cls := 7, slots := #[.int 34], vm := .none },
  { cls := 7, slots := #[.int 35], vm := .none },
  { cls := 7, slots := #[.int 36], vm := .none },
  { cls := 7, slots := #[.int 37], vm := .none },
  { cls := 7, slots := #[.int 38], vm := .none },
  { cls := 7, slots := #[.int 39], vm := .none },
  { cls := 7, slots := #[.int 40], vm := .none },
  { cls := 7, slots := #[.int 41], vm := .none },
  { cls := 7, slots := #[.int 42], vm := .none },
  { cls := 7, slots := #[.int 43], vm := .none },
  { cls := 7, slots := #[.int 44], vm := .none },
  { cls := 7, slots := #[.int 45], vm := .none },
  { cls := 7, slots := #[.int 46], vm := .none },
  { cls := 7, slots := #[.int 47], vm := .none },
  { cls := 7, slots := #[.int 48], vm := .none },
  { cls := 7, slots := #[.int 49], vm := .none },
  { cls := 7, slots := #[.int 50], vm := .none },
  { cls := 7, slots := #[.int 51], vm := .none },
  { cls := 7, slots := #[.int 52], vm := .none },
  { cls := 7, slots := #[.int 53], vm := .none },
  { cls := 7, slots := #[.int 54], vm := .none },
  { cls := 7, slots := #[.int 55], vm := .none },
  { cls := 7, slots := #[.int 56], vm := .none },
  { cls := 7, slots := #[.int 57], vm := .none },
  { cls := 7, slots := #[.int 58], vm := .none },
  { cls := 7, slots := #[.int 59], vm := .none },
  { cls := 7, slots := #[.int 60], vm := .none },
  { cls := 7, slots := #[.int 61], vm := .none },
  { cls := 7, slots := #[.int 62], vm := .none },
  { cls := 7, slots := #[.int 63], vm := .none },
  { cls := 7, slots := #[.int 64], vm := .none },
  { cls := 7, slots := #[.int 65], vm := .none },
  { cls := 7, slots := #[.int 66], vm := .none },
  { cls := 7, slots := #[.int 67], vm := .none },
  { cls := 7, slots := #[.int 68], vm := .none },
  { cls := 7, slots := #[.int 69], vm := .none },
  { cls := 7, slots := #[.int 70], vm := .none },
  { cls := 7, slots := #[.int 71], vm := .none },
  { cls := 7, slots := #[.int 72], vm := .none },
  { cls := 7, slots := #[.int 73], vm := .none },
  { cls := 7, slots := #[.int 74], vm := .none },
  { cls := 7, slots := #[.int 75], vm := .none },
  { cls := 7, slots := #[.int 76], vm := .none },
  { cls := 7, slots := #[.int 77], vm := .none },
  { cls := 7, slots := #[.int 78], vm := .none },
  { cls := 7, slots := #[.int 79], vm := .none },
  { cls := 7, slots := #[.int 80], vm := .none },
  { cls := 7, slots := #[.int 81], vm := .none },
  { cls := 7, slots := #[.int 82], vm := .none },
  { cls := 7, slots := #[.int 83], vm := .none },
  { cls := 7, slots := #[.int 84], vm := .none },
  { cls := 7, slots := #[.int 85], vm := .none },
  { cls := 7, slots := #[.int 86], vm := .none },
  { cls := 7, slots := #[.int 87], vm := .none },
  { cls := 7, slots := #[.int 88], vm := .none },
  { cls := 7, slots := #[.int 89], vm := .none },
  { cls := 7, slots := #[.int 90], vm := .none },
  { cls := 7, slots := #[.int 91], vm := .none },
  { cls := 7, slots := #[.int 92], vm := .none },
  { cls := 7, slots := #[.int 93], vm := .none },
  { cls := 7, slots := #[.int 94], vm := .none },
  { cls := 7, slots := #[.int 95], vm := .none },
  { cls := 7, slots := #[.int 96], vm := .none },
  { cls := 7, slots := #[.int 97], vm := .none },
  { cls := 7, slots := #[.int 98], vm := .none },
  { cls := 7, slots := #[.int 99], vm := .none },
  { cls := 7, slots := #[.int 100], vm := .none },
  { cls := 7, slots := #[.int 101], vm := .none },
  { cls := 7, slots := #[.int 102], vm := .none },
  { cls := 7, slots := #[.int 103], vm := .none },
  { cls := 7, slots := #[.int 104], vm := .none },
  { cls := 7, slots := #[.int 105], vm := .none },
  { cls := 7, slots := #[.int 106], vm := .none },
  { cls := 7, slots := #[.int 107], vm := .none },
  { cls := 7, slots := #[.int 108], vm := .none },
  { cls := 7, slots := #[.int 109], vm := .none },
  { cls := 7, slots := #[.int 110], vm := .none },
  { cls := 7, slots := #[.int 111], vm := .none },
  { cls := 7, slots := #[.int 112], vm := .none },
  { cls := 7, slots := #[.int 113], vm := .none },
  { cls := 7, slots := #[.int 114], vm := .none },
  { cls := 7, slots := #[.int 115], vm := .none },
  { cls := 7, slots := #[.int 116], vm := .none },
  { cls := 7, slots := #[.int 117], vm := .none },
  { cls := 7, slots := #[.int 118], vm := .none },
  { cls := 7, slots := #[.int 119], vm := .none },
  { cls := 7, slots := #[.int 120], vm := .none },
  { cls := 7, slots := #[.int 121], vm := .none },
  { cls := 7, slots := #[.int 122], vm := .none },
  { cls := 7, slots := #[.int 123], vm := .none },
  { cls := 7, slots := #[.int 124], vm := .none },
  { cls := 7, slots := #[.int 125], vm := .none },
  { cls := 7, slots := #[.int 126], vm := .none },
  { cls := 7, slots := #[.int 127], vm := .none },
  { cls := 14, slots := #[.null, .int 0, .int 0, .null, .null, .int 0, .int 0], vm := .none },
  { cls := 43, slots := #[], vm := .none },
  { cls := 32, slots := #[.int 0], vm := .none },
  { cls := 44, slots := #[], vm := .none }]
def classes : Array Class := #[k0, k1, k2, k3, k4, k5, k6, k7, k8, k9, k10, k11, k12, k13, k14, k15, k16, k17, k18, k19, k20, k21, k22, k23, k24, k25, k26, k27, k28, k29, k30, k31, k32, k33, k34, k35, k36, k37, k38, k39, k40, k41, k42, k43, k44]
def interned : List (Array UInt16 × Addr) := []
def slotsUsed : Nat := 579
def theMethod : MethodId := ⟨1, 1⟩
def args0 : Array Value := #[.int 3, .int 7, .int 5]
def aboutOver (below : List Frame) : State where
  vm := { classes := classes, interned := interned.toArray }
  heap := heap
  slotsUsed := slotsUsed
  threads := #[{ frames := .invoking theMethod args0 :: below }]
def below0 : List Frame := [.native { method := ⟨0, 0⟩, args := #[] }]
def about1 : State := aboutOver below0
def p0 : Program := .bare "" "" ""
def e0 : Env := launch0.env 0 0 0
theorem w_frames : about1.frames = Frame.invoking theMethod args0 :: below0 := rfl
set_option maxRecDepth 65536 in
theorem w_args : argsFit about1.vm theMethod args0 = true := by decide +kernel
set_option maxRecDepth 65536 in
theorem w_heap : heapFits about1 = true := by decide +kernel
set_option maxRecDepth 65536 in
theorem w_runnable : about1.curStatus? = some .runnable := by decide +kernel
set_option maxRecDepth 65536 in
theorem w_alone : about1.alone = true := by decide +kernel
set_option maxRecDepth 65536 in
theorem w_named : about1.methodNamed? x = some theMethod := by decide +kernel
set_option maxRecDepth 65536 in
theorem w_hears : about1.hears theMethod below0 = true := by decide +kernel
set_option maxRecDepth 65536 in
theorem w_ripe : about1.ripe theMethod args0 below0 = true := by decide +kernel
theorem w_running : about1.status = .running := rfl
set_option maxRecDepth 65536 in
theorem w_room : about1.hasRoom e0.platform room_1 = true :=
  launch0.hasRoom_least _ room_1 (by decide +kernel) (by decide +kernel) (by decide +kernel) (by decide +kernel) (by decide +kernel) (by decide +kernel)
theorem allAtoms_all (ts : List Jvm.Cond) (a : Array Jvm.Value) (st : Jvm.State) : (allAtoms ts).before a st = ts.all (fun c => c.before a st) := by
  induction ts with
  | nil => rfl
  | cons c t ih =>
    show (Jvm.Cond.and c (allAtoms t)).before a st = _
    rw [Jvm.Cond.before_and, ih, List.all_cons]
def words1 : List Jvm.Cond := Jvm.Cond.code x code maxLocals ret :: tables_1
/-- a 'code' word, met by the world's own term for the bytes: nothing is compared byte by byte -/
theorem code_word {y : MethodName} {bytes : ByteArray} {mx : Nat} {rt : Option FieldType} {a : Array Value} {s : State} {m : MethodId} {meth : Method} {c : Code} (h1 : s.methodNamed? y = some m) (h2 : s.vm.method? m = some meth) (h3 : meth.code = some c) (h4 : c.code = bytes)
    (h5 : (c.maxLocals == mx && c.exceptionTable.isEmpty && decide (c.maxStack ≤ mostOperands) && decide (meth.sig.returnType = rt) && !meth.locks && decide (parseMethodDescriptor y.desc = some meth.sig)) = true) : (Jvm.Cond.code y bytes mx rt).before a s = true := by
  simp only [Bool.and_eq_true, beq_iff_eq, Bool.not_eq_true', decide_eq_true_eq] at h5
  obtain ⟨⟨⟨⟨⟨g1, g2⟩, g3⟩, g4⟩, g5⟩, g6⟩ := h5
  simp [Cond.before, Cond.holds, Cond.value, h1, h2, h3, h4, g1, g2, g3, g4, g5, g6]
def isCode : Jvm.Cond → Bool
  | .code _ _ _ _ => true
  | _ => false
theorem all_split {L : List Jvm.Cond} {P : Jvm.Cond → Bool} (h1 : L.all (fun c => isCode c || P c) = true) (h2 : ∀ c ∈ L.filter isCode, P c = true) : L.all P = true := by
  refine List.all_eq_true.mpr fun c hc => ?_
  have h := List.all_eq_true.mp h1 c hc
  rcases Bool.eq_false_or_eq_true (isCode c) with hi | hi
  · exact h2 c (List.mem_filter.mpr ⟨hc, hi⟩)
  · simpa [hi] using h
set_option maxRecDepth 65536 in
theorem w_c0 : (Jvm.Cond.code x code maxLocals ret).before args0 about1 = true := code_word (m := ⟨1, 1⟩) (meth := k1m1) (c := k1c1) (by decide +kernel) rfl rfl rfl (by decide +kernel)
set_option maxRecDepth 65536 in
theorem w_c1 : (Jvm.Cond.code ({ cls := "java/lang/Integer", name := "valueOf", desc := "(I)Ljava/lang/Integer;" } : Jvm.MethodName) jdk_33_method_22_code (1 : Nat) (Option.some (Jvm.ClassFile.FieldType.object "java/lang/Integer"))).before args0 about1 = true := code_word (m := ⟨7, 0⟩) (meth := k7m0) (c := k7c0) (by decide +kernel) rfl rfl rfl (by decide +kernel)
set_option maxRecDepth 65536 in
theorem w_c2 : (Jvm.Cond.code ({ cls := "java/lang/String", name := "<init>", desc := "([C)V" } : Jvm.MethodName) jdk_42_method_3_code (2 : Nat) (Option.none : Option Jvm.ClassFile.FieldType)).before args0 about1 = true := code_word (m := ⟨16, 1⟩) (meth := k16m1) (c := k16c1) (by decide +kernel) rfl rfl rfl (by decide +kernel)
set_option maxRecDepth 65536 in
theorem w_c3 : (Jvm.Cond.code ({ cls := "java/lang/String", name := "<init>", desc := "([CIILjava/lang/Void;)V" } : Jvm.MethodName) jdk_42_method_149_code (6 : Nat) (Option.none : Option Jvm.ClassFile.FieldType)).before args0 about1 = true := code_word (m := ⟨16, 2⟩) (meth := k16m2) (c := k16c2) (by decide +kernel) rfl rfl rfl (by decide +kernel)
set_option maxRecDepth 65536 in
theorem w_c4 : (Jvm.Cond.code ({ cls := "java/lang/Object", name := "<init>", desc := "()V" } : Jvm.MethodName) object_method_1_code (1 : Nat) (Option.none : Option Jvm.ClassFile.FieldType)).before args0 about1 = true := code_word (m := ⟨0, 0⟩) (meth := k0m0) (c := k0c0) (by decide +kernel) rfl rfl rfl (by decide +kernel)
set_option maxRecDepth 65536 in
theorem w_c5 : (Jvm.Cond.code ({ cls := "java/lang/StringUTF16", name := "compress", desc := "([CII)[B" } : Jvm.MethodName) jdk_52_method_16_code (6 : Nat) (Option.some (Jvm.ClassFile.FieldType.array Jvm.ClassFile.FieldType.byte))).before args0 about1 = true := code_word (m := ⟨17, 2⟩) (meth := k17m2) (c := k17c2) (by decide +kernel) rfl rfl rfl (by decide +kernel)
set_option maxRecDepth 65536 in
theorem w_c6 : (Jvm.Cond.code ({ cls := "java/lang/StringUTF16", name := "compress", desc := "([CI[BII)I" } : Jvm.MethodName) jdk_52_method_21_code (7 : Nat) (Option.some Jvm.ClassFile.FieldType.int)).before args0 about1 = true := code_word (m := ⟨17, 3⟩) (meth := k17m3) (c := k17c3) (by decide +kernel) rfl rfl rfl (by decide +kernel)
set_option maxRecDepth 65536 in
theorem w_c7 : (Jvm.Cond.code ({ cls := "java/lang/StringUTF16", name := "coderFromArrayLen", desc := "([BI)B" } : Jvm.MethodName) jdk_52_method_15_code (2 : Nat) (Option.some Jvm.ClassFile.FieldType.byte)).before args0 about1 = true := code_word (m := ⟨17, 1⟩) (meth := k17m1) (c := k17c1) (by decide +kernel) rfl rfl rfl (by decide +kernel)
set_option maxRecDepth 65536 in
theorem w_c8 : (Jvm.Cond.code ({ cls := "com/example/inflight/inflight/ApiException", name := "<init>", desc := "(Lcom/example/inflight/inflight/ErrorCode;Ljava/lang/String;)V" } : Jvm.MethodName) prog_2_method_1_code (3 : Nat) (Option.none : Option Jvm.ClassFile.FieldType)).before args0 about1 = true := code_word (m := ⟨12, 0⟩) (meth := k12m0) (c := k12c0) (by decide +kernel) rfl rfl rfl (by decide +kernel)
set_option maxRecDepth 65536 in
theorem w_c9 : (Jvm.Cond.code ({ cls := "java/lang/RuntimeException", name := "<init>", desc := "(Ljava/lang/String;)V" } : Jvm.MethodName) jdk_58_method_2_code (2 : Nat) (Option.none : Option Jvm.ClassFile.FieldType)).before args0 about1 = true := code_word (m := ⟨11, 1⟩) (meth := k11m1) (c := k11c1) (by decide +kernel) rfl rfl rfl (by decide +kernel)
set_option maxRecDepth 65536 in
theorem w_c10 : (Jvm.Cond.code ({ cls := "java/lang/Exception", name := "<init>", desc := "(Ljava/lang/String;)V" } : Jvm.MethodName) jdk_59_method_2_code (2 : Nat) (Option.none : Option Jvm.ClassFile.FieldType)).before args0 about1 = true := code_word (m := ⟨10, 1⟩) (meth := k10m1) (c := k10c1) (by decide +kernel) rfl rfl rfl (by decide +kernel)
set_option maxRecDepth 65536 in
theorem w_c11 : (Jvm.Cond.code ({ cls := "java/lang/Throwable", name := "<init>", desc := "(Ljava/lang/String;)V" } : Jvm.MethodName) jdk_78_method_2_code (2 : Nat) (Option.none : Option Jvm.ClassFile.FieldType)).before args0 about1 = true := code_word (m := ⟨9, 1⟩) (meth := k9m1) (c := k9c1) (by decide +kernel) rfl rfl rfl (by decide +kernel)
set_option maxRecDepth 65536 in
theorem w_c12 : (Jvm.Cond.code ({ cls := "java/lang/Throwable", name := "<init>", desc := "()V" } : Jvm.MethodName) jdk_78_method_1_code (1 : Nat) (Option.none : Option Jvm.ClassFile.FieldType)).before args0 about1 = true := code_word (m := ⟨9, 0⟩) (meth := k9m0) (c := k9c0) (by decide +kernel) rfl rfl rfl (by decide +kernel)
set_option maxRecDepth 65536 in
theorem w_c13 : (Jvm.Cond.code ({ cls := "java/util/Objects", name := "requireNonNull", desc := "(Ljava/lang/Object;Ljava/lang/String;)Ljava/lang/Object;" } : Jvm.MethodName) jdk_31_method_11_code (2 : Nat) (Option.some (Jvm.ClassFile.FieldType.object "java/lang/Object"))).before args0 about1 = true := code_word (m := ⟨18, 1⟩) (meth := k18m1) (c := k18c1) (by decide +kernel) rfl rfl rfl (by decide +kernel)
set_option maxRecDepth 65536 in
theorem w_c14 : (Jvm.Cond.code ({ cls := "com/example/inflight/inflight/Outcome", name := "<init>", desc := "(Ljava/lang/Object;Lcom/example/inflight/inflight/ApiException;)V" } : Jvm.MethodName) prog_11_method_1_code (3 : Nat) (Option.none : Option Jvm.ClassFile.FieldType)).before args0 about1 = true := code_word (m := ⟨20, 0⟩) (meth := k20m0) (c := k20c0) (by decide +kernel) rfl rfl rfl (by decide +kernel)
set_option maxRecDepth 65536 in
theorem w_c15 : (Jvm.Cond.code ({ cls := "java/lang/Record", name := "<init>", desc := "()V" } : Jvm.MethodName) jdk_30_method_1_code (1 : Nat) (Option.none : Option Jvm.ClassFile.FieldType)).before args0 about1 = true := code_word (m := ⟨19, 0⟩) (meth := k19m0) (c := k19c0) (by decide +kernel) rfl rfl rfl (by decide +kernel)
set_option maxRecDepth 65536 in
theorem w_c16 : (Jvm.Cond.code ({ cls := "com/example/inflight/inflight/Outcome", name := "isFailed", desc := "()Z" } : Jvm.MethodName) prog_11_method_4_code (1 : Nat) (Option.some Jvm.ClassFile.FieldType.boolean)).before args0 about1 = true := code_word (m := ⟨20, 3⟩) (meth := k20m3) (c := k20c3) (by decide +kernel) rfl rfl rfl (by decide +kernel)
set_option maxRecDepth 65536 in
theorem w_c17 : (Jvm.Cond.code ({ cls := "com/example/inflight/inflight/Outcome", name := "of", desc := "(Ljava/lang/Object;)Lcom/example/inflight/inflight/Outcome;" } : Jvm.MethodName) prog_11_method_2_code (1 : Nat) (Option.some (Jvm.ClassFile.FieldType.object "com/example/inflight/inflight/Outcome"))).before args0 about1 = true := code_word (m := ⟨20, 1⟩) (meth := k20m1) (c := k20c1) (by decide +kernel) rfl rfl rfl (by decide +kernel)
set_option maxRecDepth 65536 in
theorem w_c18 : (Jvm.Cond.code ({ cls := "com/example/inflight/inflight/Outcome", name := "failed", desc := "(Lcom/example/inflight/inflight/ApiException;)Lcom/example/inflight/inflight/Outcome;" } : Jvm.MethodName) prog_11_method_3_code (1 : Nat) (Option.some (Jvm.ClassFile.FieldType.object "com/example/inflight/inflight/Outcome"))).before args0 about1 = true := code_word (m := ⟨20, 2⟩) (meth := k20m2) (c := k20c2) (by decide +kernel) rfl rfl rfl (by decide +kernel)
set_option maxRecDepth 65536 in
theorem w_c19 : (Jvm.Cond.code ({ cls := "java/lang/Integer", name := "<init>", desc := "(I)V" } : Jvm.MethodName) jdk_33_method_23_code (2 : Nat) (Option.none : Option Jvm.ClassFile.FieldType)).before args0 about1 = true := code_word (m := ⟨7, 1⟩) (meth := k7m1) (c := k7c1) (by decide +kernel) rfl rfl rfl (by decide +kernel)
set_option maxRecDepth 65536 in
theorem w_c20 : (Jvm.Cond.code ({ cls := "java/lang/Number", name := "<init>", desc := "()V" } : Jvm.MethodName) jdk_18_method_1_code (1 : Nat) (Option.none : Option Jvm.ClassFile.FieldType)).before args0 about1 = true := code_word (m := ⟨3, 0⟩) (meth := k3m0) (c := k3c0) (by decide +kernel) rfl rfl rfl (by decide +kernel)
def codes1 : List Jvm.Cond := [Jvm.Cond.code x code maxLocals ret, Jvm.Cond.code ({ cls := "java/lang/Integer", name := "valueOf", desc := "(I)Ljava/lang/Integer;" } : Jvm.MethodName) jdk_33_method_22_code (1 : Nat) (Option.some (Jvm.ClassFile.FieldType.object "java/lang/Integer")), Jvm.Cond.code ({ cls := "java/lang/String", name := "<init>", desc := "([C)V" } : Jvm.MethodName) jdk_42_method_3_code (2 : Nat) (Option.none : Option Jvm.ClassFile.FieldType), Jvm.Cond.code ({ cls := "java/lang/String", name := "<init>", desc := "([CIILjava/lang/Void;)V" } : Jvm.MethodName) jdk_42_method_149_code (6 : Nat) (Option.none : Option Jvm.ClassFile.FieldType), Jvm.Cond.code ({ cls := "java/lang/Object", name := "<init>", desc := "()V" } : Jvm.MethodName) object_method_1_code (1 : Nat) (Option.none : Option Jvm.ClassFile.FieldType), Jvm.Cond.code ({ cls := "java/lang/StringUTF16", name := "compress", desc := "([CII)[B" } : Jvm.MethodName) jdk_52_method_16_code (6 : Nat) (Option.some (Jvm.ClassFile.FieldType.array Jvm.ClassFile.FieldType.byte)), Jvm.Cond.code ({ cls := "java/lang/StringUTF16", name := "compress", desc := "([CI[BII)I" } : Jvm.MethodName) jdk_52_method_21_code (7 : Nat) (Option.some Jvm.ClassFile.FieldType.int), Jvm.Cond.code ({ cls := "java/lang/StringUTF16", name := "coderFromArrayLen", desc := "([BI)B" } : Jvm.MethodName) jdk_52_method_15_code (2 : Nat) (Option.some Jvm.ClassFile.FieldType.byte), Jvm.Cond.code ({ cls := "com/example/inflight/inflight/ApiException", name := "<init>", desc := "(Lcom/example/inflight/inflight/ErrorCode;Ljava/lang/String;)V" } : Jvm.MethodName) prog_2_method_1_code (3 : Nat) (Option.none : Option Jvm.ClassFile.FieldType), Jvm.Cond.code ({ cls := "java/lang/RuntimeException", name := "<init>", desc := "(Ljava/lang/String;)V" } : Jvm.MethodName) jdk_58_method_2_code (2 : Nat) (Option.none : Option Jvm.ClassFile.FieldType), Jvm.Cond.code ({ cls := "java/lang/Exception", name := "<init>", desc := "(Ljava/lang/String;)V" } : Jvm.MethodName) jdk_59_method_2_code (2 : Nat) (Option.none : Option Jvm.ClassFile.FieldType), Jvm.Cond.code ({ cls := "java/lang/Throwable", name := "<init>", desc := "(Ljava/lang/String;)V" } : Jvm.MethodName) jdk_78_method_2_code (2 : Nat) (Option.none : Option Jvm.ClassFile.FieldType), Jvm.Cond.code ({ cls := "java/lang/Throwable", name := "<init>", desc := "()V" } : Jvm.MethodName) jdk_78_method_1_code (1 : Nat) (Option.none : Option Jvm.ClassFile.FieldType), Jvm.Cond.code ({ cls := "java/util/Objects", name := "requireNonNull", desc := "(Ljava/lang/Object;Ljava/lang/String;)Ljava/lang/Object;" } : Jvm.MethodName) jdk_31_method_11_code (2 : Nat) (Option.some (Jvm.ClassFile.FieldType.object "java/lang/Object")), Jvm.Cond.code ({ cls := "com/example/inflight/inflight/Outcome", name := "<init>", desc := "(Ljava/lang/Object;Lcom/example/inflight/inflight/ApiException;)V" } : Jvm.MethodName) prog_11_method_1_code (3 : Nat) (Option.none : Option Jvm.ClassFile.FieldType), Jvm.Cond.code ({ cls := "java/lang/Record", name := "<init>", desc := "()V" } : Jvm.MethodName) jdk_30_method_1_code (1 : Nat) (Option.none : Option Jvm.ClassFile.FieldType), Jvm.Cond.code ({ cls := "com/example/inflight/inflight/Outcome", name := "isFailed", desc := "()Z" } : Jvm.MethodName) prog_11_method_4_code (1 : Nat) (Option.some Jvm.ClassFile.FieldType.boolean), Jvm.Cond.code ({ cls := "com/example/inflight/inflight/Outcome", name := "of", desc := "(Ljava/lang/Object;)Lcom/example/inflight/inflight/Outcome;" } : Jvm.MethodName) prog_11_method_2_code (1 : Nat) (Option.some (Jvm.ClassFile.FieldType.object "com/example/inflight/inflight/Outcome")), Jvm.Cond.code ({ cls := "com/example/inflight/inflight/Outcome", name := "failed", desc := "(Lcom/example/inflight/inflight/ApiException;)Lcom/example/inflight/inflight/Outcome;" } : Jvm.MethodName) prog_11_method_3_code (1 : Nat) (Option.some (Jvm.ClassFile.FieldType.object "com/example/inflight/inflight/Outcome")), Jvm.Cond.code ({ cls := "java/lang/Integer", name := "<init>", desc := "(I)V" } : Jvm.MethodName) jdk_33_method_23_code (2 : Nat) (Option.none : Option Jvm.ClassFile.FieldType), Jvm.Cond.code ({ cls := "java/lang/Number", name := "<init>", desc := "()V" } : Jvm.MethodName) jdk_18_method_1_code (1 : Nat) (Option.none : Option Jvm.ClassFile.FieldType)]
set_option maxRecDepth 65536 in
theorem codes_eq : words1.filter isCode = codes1 := rfl
theorem w_codes : ∀ c ∈ words1.filter isCode, c.before args0 about1 = true := by
  rw [codes_eq]
  intro c hc
  simp only [codes1, List.mem_cons, List.not_mem_nil, or_false] at hc
  rcases hc with rfl | rfl | rfl | rfl | rfl | rfl | rfl | rfl | rfl | rfl | rfl | rfl | rfl | rfl | rfl | rfl | rfl | rfl | rfl | rfl | rfl
  · exact w_c0
  · exact w_c1
  · exact w_c2
  · exact w_c3
  · exact w_c4
  · exact w_c5
  · exact w_c6
  · exact w_c7
  · exact w_c8
  · exact w_c9
  · exact w_c10
  · exact w_c11
  · exact w_c12
  · exact w_c13
  · exact w_c14
  · exact w_c15
  · exact w_c16
  · exact w_c17
  · exact w_c18
  · exact w_c19
  · exact w_c20
set_option maxRecDepth 65536 in
theorem w_t1 : (words1.take 24).all (fun c => isCode c || c.before args0 about1) = true := by decide +kernel
set_option maxRecDepth 65536 in
theorem w_t2 : ((words1.drop 24).take 24).all (fun c => isCode c || c.before args0 about1) = true := by decide +kernel
set_option maxRecDepth 65536 in
theorem w_t3 : (((words1.drop 24).drop 24).take 24).all (fun c => isCode c || c.before args0 about1) = true := by decide +kernel
set_option maxRecDepth 65536 in
theorem w_t4 : ((((words1.drop 24).drop 24).drop 24).take 24).all (fun c => isCode c || c.before args0 about1) = true := by decide +kernel
set_option maxRecDepth 65536 in
theorem w_t5 : (((((words1.drop 24).drop 24).drop 24).drop 24).take 24).all (fun c => isCode c || c.before args0 about1) = true := by decide +kernel
set_option maxRecDepth 65536 in
theorem w_t6 : ((((((words1.drop 24).drop 24).drop 24).drop 24).drop 24).take 24).all (fun c => isCode c || c.before args0 about1) = true := by decide +kernel
set_option maxRecDepth 65536 in
theorem w_t7 : ((((((words1.drop 24).drop 24).drop 24).drop 24).drop 24).drop 24).all (fun c => isCode c || c.before args0 about1) = true := by decide +kernel
theorem w_tables : (allAtoms (Jvm.Cond.code x code maxLocals ret :: tables_1)).before args0 about1 = true := by
  rw [allAtoms_all]
  show words1.all (fun c => c.before args0 about1) = true
  refine all_split ?_ w_codes
  rw [← List.take_append_drop 24 words1, List.all_append, w_t1, ← List.take_append_drop 24 (words1.drop 24), List.all_append, w_t2, ← List.take_append_drop 24 ((words1.drop 24).drop 24), List.all_append, w_t3, ← List.take_append_drop 24 (((words1.drop 24).drop 24).drop 24), List.all_append, w_t4, ← List.take_append_drop 24 ((((words1.drop 24).drop 24).drop 24).drop 24), List.all_append, w_t5, ← List.take_append_drop 24 (((((words1.drop 24).drop 24).drop 24).drop 24).drop 24), List.all_append, w_t6, w_t7]
  rfl
set_option maxRecDepth 65536 in
theorem w_rest : rest_1_c.before args0 about1 = true := by decide +kernel
set_option maxRecDepth 65536 in
theorem w_case : (Jvm.Cond.and given_1 narrow_1).before args0 about1 = true := by decide +kernel
theorem w_applies : (headSpec (Jvm.Cond.code x code maxLocals ret :: tables_1) room_1).applies x e0.platform about1 = true :=
  (Spec.applies_iff w_frames).mpr ⟨w_running, w_runnable, w_alone, w_named, w_hears, w_ripe, w_room, w_tables⟩
theorem atStart : AtStart classFile x code maxLocals ret World_1 tables_1 room_1 Calls_1 rest_1 Pre_1 launch0 p0 e0 about1 theMethod args0 below0 :=
  ⟨lists_1, trivial, launch0.admits_env _ _ _, launch0.least_env, fairChoices_fair.cas, fairChoices_fair.clock, w_frames, w_args, w_heap, w_applies, ⟨(by decide +kernel : framesKnown about1 = true), ⟨(by decide +kernel : tablesKnown about1 = true), trivial⟩⟩, w_rest, w_case⟩
end start1
theorem witness_1 : WitnessClaimed_1 := ⟨start1.p0, start1.e0, start1.about1, start1.theMethod, start1.args0, start1.below0, start1.atStart⟩
end Jvm.Pilot.@@N@@

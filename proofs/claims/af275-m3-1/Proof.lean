import JvmDerived
import JvmDerived.Pilot.@@N@@Statement
import JvmDerived.Pilot.@@N@@Code
set_option linter.unusedVariables false
set_option linter.unusedSimpArgs false
namespace Jvm.Pilot.@@N@@
open Jvm Jvm.ClassFile Sem Op Lib Jvm.Free Jvm.Stand Jvm.LawKit Jvm.RoadKit Bundle Jvm.Pilot.@@N@@.Jvm.D
/-! ## the run in continuation form: 'Go G T g': from T with the top frame g the run ends as G says -/
def Go (p : Program) (e : Env) (below : List Frame) (G : State → Outcome → Prop) (T : State) (g : JFrame) : Prop :=
  ∃ s₂ o, Steps p.tables e below (T.setTop g) s₂ ∧ s₂.status = .running ∧ Ended s₂ below o ∧ G s₂ o
/-- what a contract asks of the end -/
def FinQ (s : State) (Q : Option Value → Heap → List Loc → Prop) (kc ks : Nat) (U' : State) (o : Outcome) : Prop :=
  ∃ v L, o = .returned v ∧ Q v U'.heap L ∧ FrameEnd s o U' L kc ks
/-- a body's contract, as backOf takes it -/
def Met1 (l : Launch) (Z : State) (y : MethodName) (bytes : ByteArray) (maxL : Nat) (rt : Option FieldType) (rm : Room) (as : Array Value) (h0 : Heap) (Q : Option Value → Heap → List Loc → Prop) : Prop :=
  ∀ ws : List Jvm.Cond, MetFree l y (head1 (Jvm.Cond.code y bytes maxL rt :: ws) rm) (fun a U => a = as ∧ Z.Warmed39 U.vm ∧ U.heap = h0) (fun _ _ _ _ _ => True)
    (fun _ U o U' => ∃ v L, o = .returned v ∧ Q v U'.heap L ∧ FrameEnd U o U' L rm.cells rm.slots)
section OwnGo
variable {p : Program} {l : Launch} {e : Env} {R : Room} {s : State} {m : MethodId} {args : Array Value} {below : List Frame} {meth : Method} {c : Code} {T T' : State} {locs : List Loc} {cells slots : Nat} {G : State → Outcome → Prop} {Ls : Array Slot} {st : List Value} {pc : Nat} {bs : ByteArray} {Z : State} {a0 : Array Value} {h : Heap} {g g' : JFrame}
theorem Go.by (q : ∀ t, Steps p.tables e below (T'.setTop g') t → Steps p.tables e below (T.setTop g) t) (k : Go p e below G T' g') : Go p e below G T g := by
  obtain ⟨s₂, o, h1, h2⟩ := k
  exact ⟨s₂, o, q _ h1, h2⟩
theorem own_met_of {Z : State} {y : MethodName} {bytes : ByteArray} {maxL : Nat} {rt : Option FieldType} {rm : Room} {as : Array Value} {h0 : Heap} {Q : Option Value → Heap → List Loc → Prop} {Ls0 : Array Slot} (hpl : plainFor y = true) (ef : ∀ m, entryFrame m as maxL = mkF m 0 Ls0 [])
    (body : ∀ (p : Program) (e : Env) (s : State) (m : MethodId) (below : List Frame) (meth : Method) (c : Code) (s₁ : State), Stand p l e rm s m as below meth c s₁ [] 0 0 → p.tables.exec = Jvm.exec → c.code = bytes → c.maxLocals = maxL → Z.Warmed39 s.vm → s.vm.findClass y.cls = some m.cls → meth.name = y.name → meth.sig.returnType = rt → meth.locks = false → s₁.heap = h0 →
      Go p e below (FinQ s Q rm.cells rm.slots) s₁ (mkF m 0 Ls0 [])) : Met1 l Z y bytes maxL rt rm as h0 Q := by
  intro ws
  refine MetFree.of_bodySF hpl hisR ?_
  intro p e s m args below meth c s₁ Bd hml0 hP hK
  obtain ⟨rfl, hZ, hh⟩ := hP
  have k := body p e s m below meth c s₁ (Stand.of_body Bd) Bd.exec Bd.bytes hml0 hZ (findClass_of_methodNamed Bd.named) (name_of_methodNamed Bd.named Bd.method).1 Bd.returns Bd.notSynchronized (by rw [← hh, Bd.state]; rfl)
  rw [← ef m] at k
  exact k
theorem own_leave {Q : Option Value → Heap → List Loc → Prop} {kc ks : Nat} {v : Option Value} (X : Stand p l e R s m args below meth c T locs cells slots) (hv : meth.sig.returnType = none → v = none) (hlk : meth.locks = false) (hc : cells ≤ kc) (hs : slots ≤ ks) (hQ : Q v T.heap locs)
    (k : ∀ fs, (∀ (f : JFrame) (acts : List Action), f.method = m → f.locked = none → f.entered = [] → (doReturn e (T.setTop f) acts v).1 = T.setFrames fs) → Steps p.tables e below (T.setTop g) (T.setFrames fs)) : Go p e below (FinQ s Q kc ks) T g := by
  obtain ⟨fs, hr, hrun, hended, hW, hsame⟩ := X.leave (v := v) hv hlk
  exact ⟨_, _, k fs hr, hrun, hended, _, _, rfl, hQ, ⟨_, rfl⟩, hW, hsame.mono hc hs⟩
theorem own_retI {Q : Option Value → Heap → List Loc → Prop} {kc ks : Nat} {z : Int32} (X : Stand p l e R s m args below meth c T locs cells slots) (hx : p.tables.exec = Jvm.exec) (hby : c.code = bs) (hret : meth.sig.returnType = some .int) (hlk : meth.locks = false) (hd : decode bs pc = .ok (.ireturn, 1)) (hc : cells ≤ kc) (hs : slots ≤ ks) (hQ : Q (some (.int z)) T.heap locs) : Go p e below (FinQ s Q kc ks) T (mkF m pc Ls (.int z :: st)) := by
  refine own_leave X (fun q => by rw [hret] at q; cases q) hlk hc hs hQ fun fs hr => ?_
  exact retOut X hx hret rfl (Or.inl ⟨rfl, Or.inl rfl, z, rfl⟩) (hb hby hd) hr
theorem own_retN {Q : Option Value → Heap → List Loc → Prop} {kc ks : Nat} {z z' : Int32} {t : FieldType} (X : Stand p l e R s m args below meth c T locs cells slots) (hx : p.tables.exec = Jvm.exec) (hby : c.code = bs) (hret : meth.sig.returnType = some t) (hlk : meth.locks = false) (ht : t = .boolean ∨ t = .byte ∨ t = .char ∨ t = .short) (hd : decode bs pc = .ok (.ireturn, 1)) (hc : cells ≤ kc) (hs : slots ≤ ks) (hn : nar t z = z') (hQ : Q (some (.int z')) T.heap locs) : Go p e below (FinQ s Q kc ks) T (mkF m pc Ls (.int z :: st)) := by
  subst hn
  refine own_leave X (fun q => by rw [hret] at q; cases q) hlk hc hs hQ fun fs hr => ?_
  exact retN X hx hret ht (hb hby hd) hr
theorem own_retJ {Q : Option Value → Heap → List Loc → Prop} {kc ks : Nat} {z : Int64} (X : Stand p l e R s m args below meth c T locs cells slots) (hx : p.tables.exec = Jvm.exec) (hby : c.code = bs) (hret : meth.sig.returnType = some .long) (hlk : meth.locks = false) (hd : decode bs pc = .ok (.lreturn, 1)) (hc : cells ≤ kc) (hs : slots ≤ ks) (hQ : Q (some (.long z)) T.heap locs) : Go p e below (FinQ s Q kc ks) T (mkF m pc Ls (.long z :: st)) := by
  refine own_leave X (fun q => by rw [hret] at q; cases q) hlk hc hs hQ fun fs hr => ?_
  exact retOut X hx hret rfl (Or.inr (Or.inl ⟨rfl, rfl, z, rfl⟩)) (hb hby hd) hr
theorem own_retA {Q : Option Value → Heap → List Loc → Prop} {kc ks : Nat} {w : Value} {t : FieldType} (X : Stand p l e R s m args below meth c T locs cells slots) (hx : p.tables.exec = Jvm.exec) (hby : c.code = bs) (hret : meth.sig.returnType = some t) (hlk : meth.locks = false) (ht : t.isReference = true) (hw : w.isRef = true) (hn : narrow t w = w) (hd : decode bs pc = .ok (.areturn, 1)) (hc : cells ≤ kc) (hs : slots ≤ ks) (hQ : Q (some w) T.heap locs) : Go p e below (FinQ s Q kc ks) T (mkF m pc Ls (w :: st)) := by
  refine own_leave X (fun q => by rw [hret] at q; cases q) hlk hc hs hQ fun fs hr => ?_
  exact retOut X hx hret hn (Or.inr (Or.inr (Or.inr (Or.inr ⟨rfl, ht, hw⟩)))) (hb hby hd) hr
theorem own_ret {Q : Option Value → Heap → List Loc → Prop} {kc ks : Nat} (X : Stand p l e R s m args below meth c T locs cells slots) (hx : p.tables.exec = Jvm.exec) (hby : c.code = bs) (hret : meth.sig.returnType = none) (hlk : meth.locks = false) (hd : decode bs pc = .ok (.return_, 1)) (hc : cells ≤ kc) (hs : slots ≤ ks) (hQ : Q none T.heap locs) : Go p e below (FinQ s Q kc ks) T (mkF m pc Ls []) := by
  refine own_leave X (fun _ => rfl) hlk hc hs hQ fun fs hr => ?_
  exact X.returnOut hx hret (hb hby hd) hr
theorem own_iload (X : Stand p l e R s m args below meth c T locs cells slots) (hx : p.tables.exec = Jvm.exec) (hby : c.code = bs) {n : Nat} (v : Int32) (hd : decode bs pc = .ok (.iload n, 2)) (hl : Ls[n]? = some (.val (.int v))) (pc' : Nat) (hp : pc + 2 = pc') (k : Go p e below G T (mkF m pc' Ls (.int v :: st))) : Go p e below G T (mkF m pc Ls st) := by
  subst hp
  exact Go.by (fun t q => XS.iload X.here hx rfl (hb hby hd) hl q) k
theorem own_iloadN (X : Stand p l e R s m args below meth c T locs cells slots) (hx : p.tables.exec = Jvm.exec) (hby : c.code = bs) {n : Fin 4} (v : Int32) (hd : decode bs pc = .ok (.iload_n n, 1)) (hl : Ls[n.val]? = some (.val (.int v))) (pc' : Nat) (hp : pc + 1 = pc') (k : Go p e below G T (mkF m pc' Ls (.int v :: st))) : Go p e below G T (mkF m pc Ls st) := by
  subst hp
  exact Go.by (fun t q => XS.iloadN X.here hx rfl (hb hby hd) hl q) k
theorem own_istore (X : Stand p l e R s m args below meth c T locs cells slots) (hx : p.tables.exec = Jvm.exec) (hby : c.code = bs) {n : Nat} {x x' : Int32} (hd : decode bs pc = .ok (.istore n, 2)) (ex : x = x') {l' : Array Slot} (hl : storeLocals Ls n (.int x') = some l') (pc' : Nat) (hp : pc + 2 = pc') (k : Go p e below G T (mkF m pc' l' st)) : Go p e below G T (mkF m pc Ls (.int x :: st)) := by
  subst hp
  subst ex
  exact Go.by (fun t q => XS.istore X.here hx rfl (hb hby hd) rfl hl q) k
theorem own_istoreN (X : Stand p l e R s m args below meth c T locs cells slots) (hx : p.tables.exec = Jvm.exec) (hby : c.code = bs) {n : Fin 4} {x x' : Int32} (hd : decode bs pc = .ok (.istore_n n, 1)) (ex : x = x') {l' : Array Slot} (hl : storeLocals Ls n.val (.int x') = some l') (pc' : Nat) (hp : pc + 1 = pc') (k : Go p e below G T (mkF m pc' l' st)) : Go p e below G T (mkF m pc Ls (.int x :: st)) := by
  subst hp
  subst ex
  exact Go.by (fun t q => XS.istoreN X.here hx rfl (hb hby hd) rfl hl q) k
theorem own_lload (X : Stand p l e R s m args below meth c T locs cells slots) (hx : p.tables.exec = Jvm.exec) (hby : c.code = bs) {n : Nat} (v : Int64) (hd : decode bs pc = .ok (.lload n, 2)) (hl : Ls[n]? = some (.val (.long v))) (pc' : Nat) (hp : pc + 2 = pc') (k : Go p e below G T (mkF m pc' Ls (.long v :: st))) : Go p e below G T (mkF m pc Ls st) := by
  subst hp
  exact Go.by (fun t q => XS.lload X.here hx rfl (hb hby hd) hl q) k
theorem own_lloadN (X : Stand p l e R s m args below meth c T locs cells slots) (hx : p.tables.exec = Jvm.exec) (hby : c.code = bs) {n : Fin 4} (v : Int64) (hd : decode bs pc = .ok (.lload_n n, 1)) (hl : Ls[n.val]? = some (.val (.long v))) (pc' : Nat) (hp : pc + 1 = pc') (k : Go p e below G T (mkF m pc' Ls (.long v :: st))) : Go p e below G T (mkF m pc Ls st) := by
  subst hp
  exact Go.by (fun t q => XS.lloadN X.here hx rfl (hb hby hd) hl q) k
theorem own_lstore (X : Stand p l e R s m args below meth c T locs cells slots) (hx : p.tables.exec = Jvm.exec) (hby : c.code = bs) {n : Nat} {x x' : Int64} (hd : decode bs pc = .ok (.lstore n, 2)) (ex : x = x') {l' : Array Slot} (hl : storeLocals Ls n (.long x') = some l') (pc' : Nat) (hp : pc + 2 = pc') (k : Go p e below G T (mkF m pc' l' st)) : Go p e below G T (mkF m pc Ls (.long x :: st)) := by
  subst hp
  subst ex
  exact Go.by (fun t q => XS.lstore X.here hx rfl (hb hby hd) rfl hl q) k
theorem own_lstoreN (X : Stand p l e R s m args below meth c T locs cells slots) (hx : p.tables.exec = Jvm.exec) (hby : c.code = bs) {n : Fin 4} {x x' : Int64} (hd : decode bs pc = .ok (.lstore_n n, 1)) (ex : x = x') {l' : Array Slot} (hl : storeLocals Ls n.val (.long x') = some l') (pc' : Nat) (hp : pc + 1 = pc') (k : Go p e below G T (mkF m pc' l' st)) : Go p e below G T (mkF m pc Ls (.long x :: st)) := by
  subst hp
  subst ex
  exact Go.by (fun t q => XS.lstoreN X.here hx rfl (hb hby hd) rfl hl q) k
theorem own_aload (X : Stand p l e R s m args below meth c T locs cells slots) (hx : p.tables.exec = Jvm.exec) (hby : c.code = bs) {n : Nat} (v : Value) (hd : decode bs pc = .ok (.aload n, 2)) (hl : Ls[n]? = some (.val v)) (hv : v.isRef = true) (pc' : Nat) (hp : pc + 2 = pc') (k : Go p e below G T (mkF m pc' Ls (v :: st))) : Go p e below G T (mkF m pc Ls st) := by
  subst hp
  exact Go.by (fun t q => XS.aload X.here hx rfl (hb hby hd) hl hv q) k
theorem own_aloadN (X : Stand p l e R s m args below meth c T locs cells slots) (hx : p.tables.exec = Jvm.exec) (hby : c.code = bs) {n : Fin 4} (v : Value) (hd : decode bs pc = .ok (.aload_n n, 1)) (hl : Ls[n.val]? = some (.val v)) (hv : v.isRef = true) (pc' : Nat) (hp : pc + 1 = pc') (k : Go p e below G T (mkF m pc' Ls (v :: st))) : Go p e below G T (mkF m pc Ls st) := by
  subst hp
  exact Go.by (fun t q => XS.aloadN X.here hx rfl (hb hby hd) hl hv q) k
theorem own_astore (X : Stand p l e R s m args below meth c T locs cells slots) (hx : p.tables.exec = Jvm.exec) (hby : c.code = bs) {n : Nat} {x : Value} (hd : decode bs pc = .ok (.astore n, 2)) (hv : x.isRef = true) {l' : Array Slot} (hl : storeLocals Ls n x = some l') (pc' : Nat) (hp : pc + 2 = pc') (k : Go p e below G T (mkF m pc' l' st)) : Go p e below G T (mkF m pc Ls (x :: st)) := by
  subst hp
  exact Go.by (fun t q => XS.astore X.here hx rfl (hb hby hd) rfl hv hl q) k
theorem own_astoreN (X : Stand p l e R s m args below meth c T locs cells slots) (hx : p.tables.exec = Jvm.exec) (hby : c.code = bs) {n : Fin 4} {x : Value} (hd : decode bs pc = .ok (.astore_n n, 1)) (hv : x.isRef = true) {l' : Array Slot} (hl : storeLocals Ls n.val x = some l') (pc' : Nat) (hp : pc + 1 = pc') (k : Go p e below G T (mkF m pc' l' st)) : Go p e below G T (mkF m pc Ls (x :: st)) := by
  subst hp
  exact Go.by (fun t q => XS.astoreN X.here hx rfl (hb hby hd) rfl hv hl q) k
theorem own_iconst (X : Stand p l e R s m args below meth c T locs cells slots) (hx : p.tables.exec = Jvm.exec) (hby : c.code = bs) {i : Int} (v : Int32) (hd : decode bs pc = .ok (.iconst i, 1)) (hv : Int32.ofInt i = v) (pc' : Nat) (hp : pc + 1 = pc') (k : Go p e below G T (mkF m pc' Ls (.int v :: st))) : Go p e below G T (mkF m pc Ls st) := by
  subst hp
  subst hv
  exact Go.by (fun t q => XS.iconst X.here hx rfl (hb hby hd) q) k
theorem own_bipush (X : Stand p l e R s m args below meth c T locs cells slots) (hx : p.tables.exec = Jvm.exec) (hby : c.code = bs) {i : Int} (v : Int32) (hd : decode bs pc = .ok (.bipush i, 2)) (hv : (Int8.ofInt i).toInt32 = v) (pc' : Nat) (hp : pc + 2 = pc') (k : Go p e below G T (mkF m pc' Ls (.int v :: st))) : Go p e below G T (mkF m pc Ls st) := by
  subst hp
  subst hv
  exact Go.by (fun t q => XS.bipush X.here hx rfl (hb hby hd) q) k
theorem own_sipush (X : Stand p l e R s m args below meth c T locs cells slots) (hx : p.tables.exec = Jvm.exec) (hby : c.code = bs) {i : Int} (v : Int32) (hd : decode bs pc = .ok (.sipush i, 3)) (hv : (Int16.ofInt i).toInt32 = v) (pc' : Nat) (hp : pc + 3 = pc') (k : Go p e below G T (mkF m pc' Ls (.int v :: st))) : Go p e below G T (mkF m pc Ls st) := by
  subst hp
  subst hv
  exact Go.by (fun t q => XS.sipush X.here hx rfl (hb hby hd) q) k
theorem own_lconst (X : Stand p l e R s m args below meth c T locs cells slots) (hx : p.tables.exec = Jvm.exec) (hby : c.code = bs) {i : Fin 2} (v : Int64) (hd : decode bs pc = .ok (.lconst i, 1)) (hv : Int64.ofNat i = v) (pc' : Nat) (hp : pc + 1 = pc') (k : Go p e below G T (mkF m pc' Ls (.long v :: st))) : Go p e below G T (mkF m pc Ls st) := by
  subst hp
  subst hv
  exact Go.by (fun t q => XS.lconst X.here hx rfl (hb hby hd) q) k
theorem own_aconstNull (X : Stand p l e R s m args below meth c T locs cells slots) (hx : p.tables.exec = Jvm.exec) (hby : c.code = bs)  (hd : decode bs pc = .ok (.aconst_null, 1))  (pc' : Nat) (hp : pc + 1 = pc') (k : Go p e below G T (mkF m pc' Ls (.null :: st))) : Go p e below G T (mkF m pc Ls st) := by
  subst hp
  exact Go.by (fun t q => XS.aconstNull X.here hx rfl (hb hby hd) q) k
theorem own_iadd (X : Stand p l e R s m args below meth c T locs cells slots) (hx : p.tables.exec = Jvm.exec) (hby : c.code = bs) {x y : Int32} (hd : decode bs pc = .ok (.iadd, 1))  (pc' : Nat) (hp : pc + 1 = pc') (k : Go p e below G T (mkF m pc' Ls (.int (x + y) :: st))) : Go p e below G T (mkF m pc Ls (.int y :: .int x :: st)) := by
  subst hp
  exact Go.by (fun t q => XS.iadd X.here hx rfl (hb hby hd) rfl q) k
theorem own_isub (X : Stand p l e R s m args below meth c T locs cells slots) (hx : p.tables.exec = Jvm.exec) (hby : c.code = bs) {x y : Int32} (hd : decode bs pc = .ok (.isub, 1))  (pc' : Nat) (hp : pc + 1 = pc') (k : Go p e below G T (mkF m pc' Ls (.int (x - y) :: st))) : Go p e below G T (mkF m pc Ls (.int y :: .int x :: st)) := by
  subst hp
  exact Go.by (fun t q => XS.isub X.here hx rfl (hb hby hd) rfl q) k
theorem own_imul (X : Stand p l e R s m args below meth c T locs cells slots) (hx : p.tables.exec = Jvm.exec) (hby : c.code = bs) {x y : Int32} (hd : decode bs pc = .ok (.imul, 1))  (pc' : Nat) (hp : pc + 1 = pc') (k : Go p e below G T (mkF m pc' Ls (.int (x * y) :: st))) : Go p e below G T (mkF m pc Ls (.int y :: .int x :: st)) := by
  subst hp
  exact Go.by (fun t q => XS.imul X.here hx rfl (hb hby hd) rfl q) k
theorem own_iand (X : Stand p l e R s m args below meth c T locs cells slots) (hx : p.tables.exec = Jvm.exec) (hby : c.code = bs) {x y : Int32} (hd : decode bs pc = .ok (.iand, 1))  (pc' : Nat) (hp : pc + 1 = pc') (k : Go p e below G T (mkF m pc' Ls (.int (x &&& y) :: st))) : Go p e below G T (mkF m pc Ls (.int y :: .int x :: st)) := by
  subst hp
  exact Go.by (fun t q => XS.iand X.here hx rfl (hb hby hd) rfl q) k
theorem own_ior (X : Stand p l e R s m args below meth c T locs cells slots) (hx : p.tables.exec = Jvm.exec) (hby : c.code = bs) {x y : Int32} (hd : decode bs pc = .ok (.ior, 1))  (pc' : Nat) (hp : pc + 1 = pc') (k : Go p e below G T (mkF m pc' Ls (.int (x ||| y) :: st))) : Go p e below G T (mkF m pc Ls (.int y :: .int x :: st)) := by
  subst hp
  exact Go.by (fun t q => XS.ior X.here hx rfl (hb hby hd) rfl q) k
theorem own_ixor (X : Stand p l e R s m args below meth c T locs cells slots) (hx : p.tables.exec = Jvm.exec) (hby : c.code = bs) {x y : Int32} (hd : decode bs pc = .ok (.ixor, 1))  (pc' : Nat) (hp : pc + 1 = pc') (k : Go p e below G T (mkF m pc' Ls (.int (x ^^^ y) :: st))) : Go p e below G T (mkF m pc Ls (.int y :: .int x :: st)) := by
  subst hp
  exact Go.by (fun t q => XS.ixor X.here hx rfl (hb hby hd) rfl q) k
theorem own_ishl (X : Stand p l e R s m args below meth c T locs cells slots) (hx : p.tables.exec = Jvm.exec) (hby : c.code = bs) {x y : Int32} (hd : decode bs pc = .ok (.ishl, 1))  (pc' : Nat) (hp : pc + 1 = pc') (k : Go p e below G T (mkF m pc' Ls (.int (x <<< (y &&& 31)) :: st))) : Go p e below G T (mkF m pc Ls (.int y :: .int x :: st)) := by
  subst hp
  exact Go.by (fun t q => XS.ishl X.here hx rfl (hb hby hd) rfl q) k
theorem own_ishr (X : Stand p l e R s m args below meth c T locs cells slots) (hx : p.tables.exec = Jvm.exec) (hby : c.code = bs) {x y : Int32} (hd : decode bs pc = .ok (.ishr, 1))  (pc' : Nat) (hp : pc + 1 = pc') (k : Go p e below G T (mkF m pc' Ls (.int (x >>> (y &&& 31)) :: st))) : Go p e below G T (mkF m pc Ls (.int y :: .int x :: st)) := by
  subst hp
  exact Go.by (fun t q => XS.ishr X.here hx rfl (hb hby hd) rfl q) k
theorem own_iushr (X : Stand p l e R s m args below meth c T locs cells slots) (hx : p.tables.exec = Jvm.exec) (hby : c.code = bs) {x y : Int32} (hd : decode bs pc = .ok (.iushr, 1))  (pc' : Nat) (hp : pc + 1 = pc') (k : Go p e below G T (mkF m pc' Ls (.int ((x.toUInt32 >>> (y &&& 31).toUInt32).toInt32) :: st))) : Go p e below G T (mkF m pc Ls (.int y :: .int x :: st)) := by
  subst hp
  exact Go.by (fun t q => XS.iushr X.here hx rfl (hb hby hd) rfl q) k
theorem own_ladd (X : Stand p l e R s m args below meth c T locs cells slots) (hx : p.tables.exec = Jvm.exec) (hby : c.code = bs) {x y : Int64} (hd : decode bs pc = .ok (.ladd, 1))  (pc' : Nat) (hp : pc + 1 = pc') (k : Go p e below G T (mkF m pc' Ls (.long (x + y) :: st))) : Go p e below G T (mkF m pc Ls (.long y :: .long x :: st)) := by
  subst hp
  exact Go.by (fun t q => XS.ladd X.here hx rfl (hb hby hd) rfl q) k
theorem own_lsub (X : Stand p l e R s m args below meth c T locs cells slots) (hx : p.tables.exec = Jvm.exec) (hby : c.code = bs) {x y : Int64} (hd : decode bs pc = .ok (.lsub, 1))  (pc' : Nat) (hp : pc + 1 = pc') (k : Go p e below G T (mkF m pc' Ls (.long (x - y) :: st))) : Go p e below G T (mkF m pc Ls (.long y :: .long x :: st)) := by
  subst hp
  exact Go.by (fun t q => XS.lsub X.here hx rfl (hb hby hd) rfl q) k
theorem own_lmul (X : Stand p l e R s m args below meth c T locs cells slots) (hx : p.tables.exec = Jvm.exec) (hby : c.code = bs) {x y : Int64} (hd : decode bs pc = .ok (.lmul, 1))  (pc' : Nat) (hp : pc + 1 = pc') (k : Go p e below G T (mkF m pc' Ls (.long (x * y) :: st))) : Go p e below G T (mkF m pc Ls (.long y :: .long x :: st)) := by
  subst hp
  exact Go.by (fun t q => XS.lmul X.here hx rfl (hb hby hd) rfl q) k
theorem own_land (X : Stand p l e R s m args below meth c T locs cells slots) (hx : p.tables.exec = Jvm.exec) (hby : c.code = bs) {x y : Int64} (hd : decode bs pc = .ok (.land, 1))  (pc' : Nat) (hp : pc + 1 = pc') (k : Go p e below G T (mkF m pc' Ls (.long (x &&& y) :: st))) : Go p e below G T (mkF m pc Ls (.long y :: .long x :: st)) := by
  subst hp
  exact Go.by (fun t q => XS.land X.here hx rfl (hb hby hd) rfl q) k
theorem own_lor (X : Stand p l e R s m args below meth c T locs cells slots) (hx : p.tables.exec = Jvm.exec) (hby : c.code = bs) {x y : Int64} (hd : decode bs pc = .ok (.lor, 1))  (pc' : Nat) (hp : pc + 1 = pc') (k : Go p e below G T (mkF m pc' Ls (.long (x ||| y) :: st))) : Go p e below G T (mkF m pc Ls (.long y :: .long x :: st)) := by
  subst hp
  exact Go.by (fun t q => XS.lor X.here hx rfl (hb hby hd) rfl q) k
theorem own_lxor (X : Stand p l e R s m args below meth c T locs cells slots) (hx : p.tables.exec = Jvm.exec) (hby : c.code = bs) {x y : Int64} (hd : decode bs pc = .ok (.lxor, 1))  (pc' : Nat) (hp : pc + 1 = pc') (k : Go p e below G T (mkF m pc' Ls (.long (x ^^^ y) :: st))) : Go p e below G T (mkF m pc Ls (.long y :: .long x :: st)) := by
  subst hp
  exact Go.by (fun t q => XS.lxor X.here hx rfl (hb hby hd) rfl q) k
theorem own_lshl (X : Stand p l e R s m args below meth c T locs cells slots) (hx : p.tables.exec = Jvm.exec) (hby : c.code = bs) {x : Int64} {y : Int32} (hd : decode bs pc = .ok (.lshl, 1))  (pc' : Nat) (hp : pc + 1 = pc') (k : Go p e below G T (mkF m pc' Ls (.long (x <<< (y &&& 0x3f).toInt64) :: st))) : Go p e below G T (mkF m pc Ls (.int y :: .long x :: st)) := by
  subst hp
  exact Go.by (fun t q => XS.lshl X.here hx rfl (hb hby hd) rfl q) k
theorem own_lshr (X : Stand p l e R s m args below meth c T locs cells slots) (hx : p.tables.exec = Jvm.exec) (hby : c.code = bs) {x : Int64} {y : Int32} (hd : decode bs pc = .ok (.lshr, 1))  (pc' : Nat) (hp : pc + 1 = pc') (k : Go p e below G T (mkF m pc' Ls (.long (x >>> (y &&& 0x3f).toInt64) :: st))) : Go p e below G T (mkF m pc Ls (.int y :: .long x :: st)) := by
  subst hp
  exact Go.by (fun t q => XS.lshr X.here hx rfl (hb hby hd) rfl q) k
theorem own_lushr (X : Stand p l e R s m args below meth c T locs cells slots) (hx : p.tables.exec = Jvm.exec) (hby : c.code = bs) {x : Int64} {y : Int32} (hd : decode bs pc = .ok (.lushr, 1))  (pc' : Nat) (hp : pc + 1 = pc') (k : Go p e below G T (mkF m pc' Ls (.long ((x.toUInt64 >>> (y &&& 0x3f).toInt64.toUInt64).toInt64) :: st))) : Go p e below G T (mkF m pc Ls (.int y :: .long x :: st)) := by
  subst hp
  exact Go.by (fun t q => XS.lushr X.here hx rfl (hb hby hd) rfl q) k
theorem own_ineg (X : Stand p l e R s m args below meth c T locs cells slots) (hx : p.tables.exec = Jvm.exec) (hby : c.code = bs) {x : Int32} (hd : decode bs pc = .ok (.ineg, 1))  (pc' : Nat) (hp : pc + 1 = pc') (k : Go p e below G T (mkF m pc' Ls (.int (-x) :: st))) : Go p e below G T (mkF m pc Ls (.int x :: st)) := by
  subst hp
  exact Go.by (fun t q => XS.ineg X.here hx rfl (hb hby hd) rfl q) k
theorem own_lneg (X : Stand p l e R s m args below meth c T locs cells slots) (hx : p.tables.exec = Jvm.exec) (hby : c.code = bs) {x : Int64} (hd : decode bs pc = .ok (.lneg, 1))  (pc' : Nat) (hp : pc + 1 = pc') (k : Go p e below G T (mkF m pc' Ls (.long (-x) :: st))) : Go p e below G T (mkF m pc Ls (.long x :: st)) := by
  subst hp
  exact Go.by (fun t q => XS.lneg X.here hx rfl (hb hby hd) rfl q) k
theorem own_i2l (X : Stand p l e R s m args below meth c T locs cells slots) (hx : p.tables.exec = Jvm.exec) (hby : c.code = bs) {x : Int32} (hd : decode bs pc = .ok (.i2l, 1))  (pc' : Nat) (hp : pc + 1 = pc') (k : Go p e below G T (mkF m pc' Ls (.long (x.toInt64) :: st))) : Go p e below G T (mkF m pc Ls (.int x :: st)) := by
  subst hp
  exact Go.by (fun t q => XS.i2l X.here hx rfl (hb hby hd) rfl q) k
theorem own_l2i (X : Stand p l e R s m args below meth c T locs cells slots) (hx : p.tables.exec = Jvm.exec) (hby : c.code = bs) {x : Int64} (hd : decode bs pc = .ok (.l2i, 1))  (pc' : Nat) (hp : pc + 1 = pc') (k : Go p e below G T (mkF m pc' Ls (.int (x.toInt32) :: st))) : Go p e below G T (mkF m pc Ls (.long x :: st)) := by
  subst hp
  exact Go.by (fun t q => XS.l2i X.here hx rfl (hb hby hd) rfl q) k
theorem own_i2b (X : Stand p l e R s m args below meth c T locs cells slots) (hx : p.tables.exec = Jvm.exec) (hby : c.code = bs) {x : Int32} (hd : decode bs pc = .ok (.i2b, 1))  (pc' : Nat) (hp : pc + 1 = pc') (k : Go p e below G T (mkF m pc' Ls (.int (x.toInt8.toInt32) :: st))) : Go p e below G T (mkF m pc Ls (.int x :: st)) := by
  subst hp
  exact Go.by (fun t q => XS.i2b X.here hx rfl (hb hby hd) rfl q) k
theorem own_i2s (X : Stand p l e R s m args below meth c T locs cells slots) (hx : p.tables.exec = Jvm.exec) (hby : c.code = bs) {x : Int32} (hd : decode bs pc = .ok (.i2s, 1))  (pc' : Nat) (hp : pc + 1 = pc') (k : Go p e below G T (mkF m pc' Ls (.int (x.toInt16.toInt32) :: st))) : Go p e below G T (mkF m pc Ls (.int x :: st)) := by
  subst hp
  exact Go.by (fun t q => XS.i2s X.here hx rfl (hb hby hd) rfl q) k
theorem own_i2c (X : Stand p l e R s m args below meth c T locs cells slots) (hx : p.tables.exec = Jvm.exec) (hby : c.code = bs) {x : Int32} (hd : decode bs pc = .ok (.i2c, 1))  (pc' : Nat) (hp : pc + 1 = pc') (k : Go p e below G T (mkF m pc' Ls (.int (x.toUInt32.toUInt16.toUInt32.toInt32) :: st))) : Go p e below G T (mkF m pc Ls (.int x :: st)) := by
  subst hp
  exact Go.by (fun t q => XS.i2c X.here hx rfl (hb hby hd) rfl q) k
theorem own_idiv (X : Stand p l e R s m args below meth c T locs cells slots) (hx : p.tables.exec = Jvm.exec) (hby : c.code = bs) {x y : Int32} (hd : decode bs pc = .ok (.idiv, 1)) (hy : y ≠ 0) (pc' : Nat) (hp : pc + 1 = pc') (k : Go p e below G T (mkF m pc' Ls (.int (x / y) :: st))) : Go p e below G T (mkF m pc Ls (.int y :: .int x :: st)) := by
  subst hp
  exact Go.by (fun t q => XS.idiv X.here hx rfl (hb hby hd) rfl hy q) k
theorem own_ldiv (X : Stand p l e R s m args below meth c T locs cells slots) (hx : p.tables.exec = Jvm.exec) (hby : c.code = bs) {x y : Int64} (hd : decode bs pc = .ok (.ldiv, 1)) (hy : y ≠ 0) (pc' : Nat) (hp : pc + 1 = pc') (k : Go p e below G T (mkF m pc' Ls (.long (x / y) :: st))) : Go p e below G T (mkF m pc Ls (.long y :: .long x :: st)) := by
  subst hp
  exact Go.by (fun t q => XS.ldiv X.here hx rfl (hb hby hd) rfl hy q) k
theorem own_irem (X : Stand p l e R s m args below meth c T locs cells slots) (hx : p.tables.exec = Jvm.exec) (hby : c.code = bs) {x y : Int32} (hd : decode bs pc = .ok (.irem, 1)) (hy : y ≠ 0) (pc' : Nat) (hp : pc + 1 = pc') (k : Go p e below G T (mkF m pc' Ls (.int (x % y) :: st))) : Go p e below G T (mkF m pc Ls (.int y :: .int x :: st)) := by
  subst hp
  exact Go.by (fun t q => iremM X hx rfl (hb hby hd) rfl hy q) k
theorem own_lrem (X : Stand p l e R s m args below meth c T locs cells slots) (hx : p.tables.exec = Jvm.exec) (hby : c.code = bs) {x y : Int64} (hd : decode bs pc = .ok (.lrem, 1)) (hy : y ≠ 0) (pc' : Nat) (hp : pc + 1 = pc') (k : Go p e below G T (mkF m pc' Ls (.long (x % y) :: st))) : Go p e below G T (mkF m pc Ls (.long y :: .long x :: st)) := by
  subst hp
  rw [← lrem_mod] at k
  exact Go.by (fun t q => XS.lrem X.here hx rfl (hb hby hd) rfl hy q) k
theorem own_iinc (X : Stand p l e R s m args below meth c T locs cells slots) (hx : p.tables.exec = Jvm.exec) (hby : c.code = bs) {n : Nat} {cst : Int} {x x' : Int32} (hd : decode bs pc = .ok (.iinc n cst, 3)) (hl : Ls[n]? = some (.val (.int x))) (ex : x + Int32.ofInt cst = x') {l' : Array Slot} (hl' : storeLocals Ls n (.int x') = some l') (pc' : Nat) (hp : pc + 3 = pc') (k : Go p e below G T (mkF m pc' l' st)) : Go p e below G T (mkF m pc Ls st) := by
  subst hp
  subst ex
  exact Go.by (fun t q => XS.iinc X.here hx rfl (hb hby hd) hl hl' q) k
theorem own_dup (X : Stand p l e R s m args below meth c T locs cells slots) (hx : p.tables.exec = Jvm.exec) (hby : c.code = bs) {x : Value} (hd : decode bs pc = .ok (.dup, 1)) (hc : x.category = 1) (pc' : Nat) (hp : pc + 1 = pc') (k : Go p e below G T (mkF m pc' Ls (x :: x :: st))) : Go p e below G T (mkF m pc Ls (x :: st)) := by
  subst hp
  exact Go.by (fun t q => XS.dup X.here hx rfl (hb hby hd) rfl hc q) k
theorem own_pop (X : Stand p l e R s m args below meth c T locs cells slots) (hx : p.tables.exec = Jvm.exec) (hby : c.code = bs) {x : Value} (hd : decode bs pc = .ok (.pop, 1)) (hc : x.category = 1) (pc' : Nat) (hp : pc + 1 = pc') (k : Go p e below G T (mkF m pc' Ls st)) : Go p e below G T (mkF m pc Ls (x :: st)) := by
  subst hp
  exact Go.by (fun t q => XS.pop X.here hx rfl (hb hby hd) rfl hc q) k
theorem own_dupX1 (X : Stand p l e R s m args below meth c T locs cells slots) (hx : p.tables.exec = Jvm.exec) (hby : c.code = bs) {x y : Value} (hd : decode bs pc = .ok (.dup_x1, 1)) (hc : x.category = 1) (hc2 : y.category = 1) (pc' : Nat) (hp : pc + 1 = pc') (k : Go p e below G T (mkF m pc' Ls (x :: y :: x :: st))) : Go p e below G T (mkF m pc Ls (x :: y :: st)) := by
  subst hp
  exact Go.by (fun t q => XS.dupX1 X.here hx rfl (hb hby hd) rfl hc hc2 q) k
theorem own_dup2 (X : Stand p l e R s m args below meth c T locs cells slots) (hx : p.tables.exec = Jvm.exec) (hby : c.code = bs) {x y : Value} (hd : decode bs pc = .ok (.dup2, 1)) (hc : x.category = 1) (hc2 : y.category = 1) (pc' : Nat) (hp : pc + 1 = pc') (k : Go p e below G T (mkF m pc' Ls (x :: y :: x :: y :: st))) : Go p e below G T (mkF m pc Ls (x :: y :: st)) := by
  subst hp
  exact Go.by (fun t q => XT.dup2 X.here hx rfl (hb hby hd) rfl hc hc2 q) k
theorem own_dup2L (X : Stand p l e R s m args below meth c T locs cells slots) (hx : p.tables.exec = Jvm.exec) (hby : c.code = bs) {x : Int64} (hd : decode bs pc = .ok (.dup2, 1))  (pc' : Nat) (hp : pc + 1 = pc') (k : Go p e below G T (mkF m pc' Ls (.long x :: .long x :: st))) : Go p e below G T (mkF m pc Ls (.long x :: st)) := by
  subst hp
  exact Go.by (fun t q => XT.dup2L X.here hx rfl (hb hby hd) rfl q) k
theorem own_goto (X : Stand p l e R s m args below meth c T locs cells slots) (hx : p.tables.exec = Jvm.exec) (hby : c.code = bs) {o : Int} (hd : decode bs pc = .ok (.goto o, 3)) (pc' : Nat) (hp : 0 ≤ (pc : Int) + o ∧ ((pc : Int) + o).toNat = pc') (k : Go p e below G T (mkF m pc' Ls st)) : Go p e below G T (mkF m pc Ls st) :=
  Go.by (fun t q => XS.goto X.here hx rfl rfl (hb hby hd) hp.1 hp.2 q) k
theorem own_top {v v' : Value} (q : v = v') (k : Go p e below G T (mkF m pc Ls (v' :: st))) : Go p e below G T (mkF m pc Ls (v :: st)) := q ▸ k
theorem own_icmp_eq (X : Stand p l e R s m args below meth c T locs cells slots) (hx : p.tables.exec = Jvm.exec) (hby : c.code = bs) {o : Int} {x y : Int32} (hd : decode bs pc = .ok (.if_icmp .eq o, 3)) (pT pF : Nat) (hp : 0 ≤ (pc : Int) + o ∧ ((pc : Int) + o).toNat = pT) (hpF : pc + 3 = pF) (kT : x = y → Go p e below G T (mkF m pT Ls st)) (kF : ¬ x = y → Go p e below G T (mkF m pF Ls st)) : Go p e below G T (mkF m pc Ls (.int y :: .int x :: st)) := by
  subst hpF
  by_cases q0 : x = y
  · have q := q0
    exact Go.by (fun t r => XS.icmpYes X.here hx rfl rfl (hb hby hd) rfl (teq q).1 hp.1 hp.2 r) (kT q0)
  · have q : ¬ x = y := by first | exact q0 | exact Classical.not_not.mp q0
    exact Go.by (fun t r => XS.icmpNo X.here hx rfl (hb hby hd) rfl (feq q).1 r) (kF q)
theorem own_if_eq (X : Stand p l e R s m args below meth c T locs cells slots) (hx : p.tables.exec = Jvm.exec) (hby : c.code = bs) {o : Int} {x : Int32} (hd : decode bs pc = .ok (.ifCond .eq o, 3)) (pT pF : Nat) (hp : 0 ≤ (pc : Int) + o ∧ ((pc : Int) + o).toNat = pT) (hpF : pc + 3 = pF) (kT : x = (0 : Int32) → Go p e below G T (mkF m pT Ls st)) (kF : ¬ x = (0 : Int32) → Go p e below G T (mkF m pF Ls st)) : Go p e below G T (mkF m pc Ls (.int x :: st)) := by
  subst hpF
  by_cases q0 : x = (0 : Int32)
  · have q := q0
    exact Go.by (fun t r => XS.ifYes X.here hx rfl rfl (hb hby hd) rfl ((if0 _ _).trans (teq q).1) hp.1 hp.2 r) (kT q0)
  · have q : ¬ x = (0 : Int32) := by first | exact q0 | exact Classical.not_not.mp q0
    exact Go.by (fun t r => XS.ifNo X.here hx rfl (hb hby hd) rfl ((if0 _ _).trans (feq q).1) r) (kF q)
theorem own_lcmp_eq (X : Stand p l e R s m args below meth c T locs cells slots) (hx : p.tables.exec = Jvm.exec) (hby : c.code = bs) {o : Int} {x y : Int64} (hd : decode bs pc = .ok (.lcmp, 1)) (hd2 : decode bs (pc + 1) = .ok (.ifCond .eq o, 3)) (pT pF : Nat) (hp : 0 ≤ ((pc + 1 : Nat) : Int) + o ∧ (((pc + 1 : Nat) : Int) + o).toNat = pT) (hpF : pc + 4 = pF) (kT : x = y → Go p e below G T (mkF m pT Ls st)) (kF : ¬ x = y → Go p e below G T (mkF m pF Ls st)) : Go p e below G T (mkF m pc Ls (.long y :: .long x :: st)) := by
  refine Go.by (fun t r => XS.lcmp X.here hx rfl (hb hby hd) rfl r) (g' := mkF m (pc + 1) Ls (.int (lcmpW x y) :: st)) ?_
  refine own_if_eq X hx hby hd2 pT pF hp (by omega) (fun q => kT ?_) (fun q => kF ?_)
  · exact (lw_eq x y).mp q
  · exact fun r => q ((lw_eq x y).mpr r)
theorem own_icmp_ne (X : Stand p l e R s m args below meth c T locs cells slots) (hx : p.tables.exec = Jvm.exec) (hby : c.code = bs) {o : Int} {x y : Int32} (hd : decode bs pc = .ok (.if_icmp .ne o, 3)) (pT pF : Nat) (hp : 0 ≤ (pc : Int) + o ∧ ((pc : Int) + o).toNat = pT) (hpF : pc + 3 = pF) (kT : ¬ x = y → Go p e below G T (mkF m pT Ls st)) (kF : x = y → Go p e below G T (mkF m pF Ls st)) : Go p e below G T (mkF m pc Ls (.int y :: .int x :: st)) := by
  subst hpF
  by_cases q0 : ¬ x = y
  · have q := q0
    exact Go.by (fun t r => XS.icmpYes X.here hx rfl rfl (hb hby hd) rfl (feq q).2 hp.1 hp.2 r) (kT q0)
  · have q : x = y := by first | exact q0 | exact Classical.not_not.mp q0
    exact Go.by (fun t r => XS.icmpNo X.here hx rfl (hb hby hd) rfl (teq q).2 r) (kF q)
theorem own_if_ne (X : Stand p l e R s m args below meth c T locs cells slots) (hx : p.tables.exec = Jvm.exec) (hby : c.code = bs) {o : Int} {x : Int32} (hd : decode bs pc = .ok (.ifCond .ne o, 3)) (pT pF : Nat) (hp : 0 ≤ (pc : Int) + o ∧ ((pc : Int) + o).toNat = pT) (hpF : pc + 3 = pF) (kT : ¬ x = (0 : Int32) → Go p e below G T (mkF m pT Ls st)) (kF : x = (0 : Int32) → Go p e below G T (mkF m pF Ls st)) : Go p e below G T (mkF m pc Ls (.int x :: st)) := by
  subst hpF
  by_cases q0 : ¬ x = (0 : Int32)
  · have q := q0
    exact Go.by (fun t r => XS.ifYes X.here hx rfl rfl (hb hby hd) rfl ((if0 _ _).trans (feq q).2) hp.1 hp.2 r) (kT q0)
  · have q : x = (0 : Int32) := by first | exact q0 | exact Classical.not_not.mp q0
    exact Go.by (fun t r => XS.ifNo X.here hx rfl (hb hby hd) rfl ((if0 _ _).trans (teq q).2) r) (kF q)
theorem own_lcmp_ne (X : Stand p l e R s m args below meth c T locs cells slots) (hx : p.tables.exec = Jvm.exec) (hby : c.code = bs) {o : Int} {x y : Int64} (hd : decode bs pc = .ok (.lcmp, 1)) (hd2 : decode bs (pc + 1) = .ok (.ifCond .ne o, 3)) (pT pF : Nat) (hp : 0 ≤ ((pc + 1 : Nat) : Int) + o ∧ (((pc + 1 : Nat) : Int) + o).toNat = pT) (hpF : pc + 4 = pF) (kT : ¬ x = y → Go p e below G T (mkF m pT Ls st)) (kF : x = y → Go p e below G T (mkF m pF Ls st)) : Go p e below G T (mkF m pc Ls (.long y :: .long x :: st)) := by
  refine Go.by (fun t r => XS.lcmp X.here hx rfl (hb hby hd) rfl r) (g' := mkF m (pc + 1) Ls (.int (lcmpW x y) :: st)) ?_
  refine own_if_ne X hx hby hd2 pT pF hp (by omega) (fun q => kT ?_) (fun q => kF ?_)
  · exact fun r => q ((lw_eq x y).mpr r)
  · exact (lw_eq x y).mp q
theorem own_icmp_lt (X : Stand p l e R s m args below meth c T locs cells slots) (hx : p.tables.exec = Jvm.exec) (hby : c.code = bs) {o : Int} {x y : Int32} (hd : decode bs pc = .ok (.if_icmp .lt o, 3)) (pT pF : Nat) (hp : 0 ≤ (pc : Int) + o ∧ ((pc : Int) + o).toNat = pT) (hpF : pc + 3 = pF) (kT : x < y → Go p e below G T (mkF m pT Ls st)) (kF : ¬ x < y → Go p e below G T (mkF m pF Ls st)) : Go p e below G T (mkF m pc Ls (.int y :: .int x :: st)) := by
  subst hpF
  by_cases q0 : x < y
  · have q := q0
    exact Go.by (fun t r => XS.icmpYes X.here hx rfl rfl (hb hby hd) rfl (tlt q).1 hp.1 hp.2 r) (kT q0)
  · have q : ¬ x < y := by first | exact q0 | exact Classical.not_not.mp q0
    exact Go.by (fun t r => XS.icmpNo X.here hx rfl (hb hby hd) rfl (flt q).1 r) (kF q)
theorem own_if_lt (X : Stand p l e R s m args below meth c T locs cells slots) (hx : p.tables.exec = Jvm.exec) (hby : c.code = bs) {o : Int} {x : Int32} (hd : decode bs pc = .ok (.ifCond .lt o, 3)) (pT pF : Nat) (hp : 0 ≤ (pc : Int) + o ∧ ((pc : Int) + o).toNat = pT) (hpF : pc + 3 = pF) (kT : x < (0 : Int32) → Go p e below G T (mkF m pT Ls st)) (kF : ¬ x < (0 : Int32) → Go p e below G T (mkF m pF Ls st)) : Go p e below G T (mkF m pc Ls (.int x :: st)) := by
  subst hpF
  by_cases q0 : x < (0 : Int32)
  · have q := q0
    exact Go.by (fun t r => XS.ifYes X.here hx rfl rfl (hb hby hd) rfl ((if0 _ _).trans (tlt q).1) hp.1 hp.2 r) (kT q0)
  · have q : ¬ x < (0 : Int32) := by first | exact q0 | exact Classical.not_not.mp q0
    exact Go.by (fun t r => XS.ifNo X.here hx rfl (hb hby hd) rfl ((if0 _ _).trans (flt q).1) r) (kF q)
theorem own_lcmp_lt (X : Stand p l e R s m args below meth c T locs cells slots) (hx : p.tables.exec = Jvm.exec) (hby : c.code = bs) {o : Int} {x y : Int64} (hd : decode bs pc = .ok (.lcmp, 1)) (hd2 : decode bs (pc + 1) = .ok (.ifCond .lt o, 3)) (pT pF : Nat) (hp : 0 ≤ ((pc + 1 : Nat) : Int) + o ∧ (((pc + 1 : Nat) : Int) + o).toNat = pT) (hpF : pc + 4 = pF) (kT : x < y → Go p e below G T (mkF m pT Ls st)) (kF : ¬ x < y → Go p e below G T (mkF m pF Ls st)) : Go p e below G T (mkF m pc Ls (.long y :: .long x :: st)) := by
  refine Go.by (fun t r => XS.lcmp X.here hx rfl (hb hby hd) rfl r) (g' := mkF m (pc + 1) Ls (.int (lcmpW x y) :: st)) ?_
  refine own_if_lt X hx hby hd2 pT pF hp (by omega) (fun q => kT ?_) (fun q => kF ?_)
  · exact (lw_lt x y).mp q
  · exact fun r => q ((lw_lt x y).mpr r)
theorem own_icmp_ge (X : Stand p l e R s m args below meth c T locs cells slots) (hx : p.tables.exec = Jvm.exec) (hby : c.code = bs) {o : Int} {x y : Int32} (hd : decode bs pc = .ok (.if_icmp .ge o, 3)) (pT pF : Nat) (hp : 0 ≤ (pc : Int) + o ∧ ((pc : Int) + o).toNat = pT) (hpF : pc + 3 = pF) (kT : ¬ x < y → Go p e below G T (mkF m pT Ls st)) (kF : x < y → Go p e below G T (mkF m pF Ls st)) : Go p e below G T (mkF m pc Ls (.int y :: .int x :: st)) := by
  subst hpF
  by_cases q0 : ¬ x < y
  · have q := q0
    exact Go.by (fun t r => XS.icmpYes X.here hx rfl rfl (hb hby hd) rfl (flt q).2.1 hp.1 hp.2 r) (kT q0)
  · have q : x < y := by first | exact q0 | exact Classical.not_not.mp q0
    exact Go.by (fun t r => XS.icmpNo X.here hx rfl (hb hby hd) rfl (tlt q).2.1 r) (kF q)
theorem own_if_ge (X : Stand p l e R s m args below meth c T locs cells slots) (hx : p.tables.exec = Jvm.exec) (hby : c.code = bs) {o : Int} {x : Int32} (hd : decode bs pc = .ok (.ifCond .ge o, 3)) (pT pF : Nat) (hp : 0 ≤ (pc : Int) + o ∧ ((pc : Int) + o).toNat = pT) (hpF : pc + 3 = pF) (kT : ¬ x < (0 : Int32) → Go p e below G T (mkF m pT Ls st)) (kF : x < (0 : Int32) → Go p e below G T (mkF m pF Ls st)) : Go p e below G T (mkF m pc Ls (.int x :: st)) := by
  subst hpF
  by_cases q0 : ¬ x < (0 : Int32)
  · have q := q0
    exact Go.by (fun t r => XS.ifYes X.here hx rfl rfl (hb hby hd) rfl ((if0 _ _).trans (flt q).2.1) hp.1 hp.2 r) (kT q0)
  · have q : x < (0 : Int32) := by first | exact q0 | exact Classical.not_not.mp q0
    exact Go.by (fun t r => XS.ifNo X.here hx rfl (hb hby hd) rfl ((if0 _ _).trans (tlt q).2.1) r) (kF q)
theorem own_lcmp_ge (X : Stand p l e R s m args below meth c T locs cells slots) (hx : p.tables.exec = Jvm.exec) (hby : c.code = bs) {o : Int} {x y : Int64} (hd : decode bs pc = .ok (.lcmp, 1)) (hd2 : decode bs (pc + 1) = .ok (.ifCond .ge o, 3)) (pT pF : Nat) (hp : 0 ≤ ((pc + 1 : Nat) : Int) + o ∧ (((pc + 1 : Nat) : Int) + o).toNat = pT) (hpF : pc + 4 = pF) (kT : ¬ x < y → Go p e below G T (mkF m pT Ls st)) (kF : x < y → Go p e below G T (mkF m pF Ls st)) : Go p e below G T (mkF m pc Ls (.long y :: .long x :: st)) := by
  refine Go.by (fun t r => XS.lcmp X.here hx rfl (hb hby hd) rfl r) (g' := mkF m (pc + 1) Ls (.int (lcmpW x y) :: st)) ?_
  refine own_if_ge X hx hby hd2 pT pF hp (by omega) (fun q => kT ?_) (fun q => kF ?_)
  · exact fun r => q ((lw_lt x y).mpr r)
  · exact (lw_lt x y).mp q
theorem own_icmp_gt (X : Stand p l e R s m args below meth c T locs cells slots) (hx : p.tables.exec = Jvm.exec) (hby : c.code = bs) {o : Int} {x y : Int32} (hd : decode bs pc = .ok (.if_icmp .gt o, 3)) (pT pF : Nat) (hp : 0 ≤ (pc : Int) + o ∧ ((pc : Int) + o).toNat = pT) (hpF : pc + 3 = pF) (kT : y < x → Go p e below G T (mkF m pT Ls st)) (kF : ¬ y < x → Go p e below G T (mkF m pF Ls st)) : Go p e below G T (mkF m pc Ls (.int y :: .int x :: st)) := by
  subst hpF
  by_cases q0 : y < x
  · have q := q0
    exact Go.by (fun t r => XS.icmpYes X.here hx rfl rfl (hb hby hd) rfl (tlt q).2.2.1 hp.1 hp.2 r) (kT q0)
  · have q : ¬ y < x := by first | exact q0 | exact Classical.not_not.mp q0
    exact Go.by (fun t r => XS.icmpNo X.here hx rfl (hb hby hd) rfl (flt q).2.2.1 r) (kF q)
theorem own_if_gt (X : Stand p l e R s m args below meth c T locs cells slots) (hx : p.tables.exec = Jvm.exec) (hby : c.code = bs) {o : Int} {x : Int32} (hd : decode bs pc = .ok (.ifCond .gt o, 3)) (pT pF : Nat) (hp : 0 ≤ (pc : Int) + o ∧ ((pc : Int) + o).toNat = pT) (hpF : pc + 3 = pF) (kT : (0 : Int32) < x → Go p e below G T (mkF m pT Ls st)) (kF : ¬ (0 : Int32) < x → Go p e below G T (mkF m pF Ls st)) : Go p e below G T (mkF m pc Ls (.int x :: st)) := by
  subst hpF
  by_cases q0 : (0 : Int32) < x
  · have q := q0
    exact Go.by (fun t r => XS.ifYes X.here hx rfl rfl (hb hby hd) rfl ((if0 _ _).trans (tlt q).2.2.1) hp.1 hp.2 r) (kT q0)
  · have q : ¬ (0 : Int32) < x := by first | exact q0 | exact Classical.not_not.mp q0
    exact Go.by (fun t r => XS.ifNo X.here hx rfl (hb hby hd) rfl ((if0 _ _).trans (flt q).2.2.1) r) (kF q)
theorem own_lcmp_gt (X : Stand p l e R s m args below meth c T locs cells slots) (hx : p.tables.exec = Jvm.exec) (hby : c.code = bs) {o : Int} {x y : Int64} (hd : decode bs pc = .ok (.lcmp, 1)) (hd2 : decode bs (pc + 1) = .ok (.ifCond .gt o, 3)) (pT pF : Nat) (hp : 0 ≤ ((pc + 1 : Nat) : Int) + o ∧ (((pc + 1 : Nat) : Int) + o).toNat = pT) (hpF : pc + 4 = pF) (kT : y < x → Go p e below G T (mkF m pT Ls st)) (kF : ¬ y < x → Go p e below G T (mkF m pF Ls st)) : Go p e below G T (mkF m pc Ls (.long y :: .long x :: st)) := by
  refine Go.by (fun t r => XS.lcmp X.here hx rfl (hb hby hd) rfl r) (g' := mkF m (pc + 1) Ls (.int (lcmpW x y) :: st)) ?_
  refine own_if_gt X hx hby hd2 pT pF hp (by omega) (fun q => kT ?_) (fun q => kF ?_)
  · exact (lw_gt x y).mp q
  · exact fun r => q ((lw_gt x y).mpr r)
theorem own_icmp_le (X : Stand p l e R s m args below meth c T locs cells slots) (hx : p.tables.exec = Jvm.exec) (hby : c.code = bs) {o : Int} {x y : Int32} (hd : decode bs pc = .ok (.if_icmp .le o, 3)) (pT pF : Nat) (hp : 0 ≤ (pc : Int) + o ∧ ((pc : Int) + o).toNat = pT) (hpF : pc + 3 = pF) (kT : ¬ y < x → Go p e below G T (mkF m pT Ls st)) (kF : y < x → Go p e below G T (mkF m pF Ls st)) : Go p e below G T (mkF m pc Ls (.int y :: .int x :: st)) := by
  subst hpF
  by_cases q0 : ¬ y < x
  · have q := q0
    exact Go.by (fun t r => XS.icmpYes X.here hx rfl rfl (hb hby hd) rfl (flt q).2.2.2 hp.1 hp.2 r) (kT q0)
  · have q : y < x := by first | exact q0 | exact Classical.not_not.mp q0
    exact Go.by (fun t r => XS.icmpNo X.here hx rfl (hb hby hd) rfl (tlt q).2.2.2 r) (kF q)
theorem own_if_le (X : Stand p l e R s m args below meth c T locs cells slots) (hx : p.tables.exec = Jvm.exec) (hby : c.code = bs) {o : Int} {x : Int32} (hd : decode bs pc = .ok (.ifCond .le o, 3)) (pT pF : Nat) (hp : 0 ≤ (pc : Int) + o ∧ ((pc : Int) + o).toNat = pT) (hpF : pc + 3 = pF) (kT : ¬ (0 : Int32) < x → Go p e below G T (mkF m pT Ls st)) (kF : (0 : Int32) < x → Go p e below G T (mkF m pF Ls st)) : Go p e below G T (mkF m pc Ls (.int x :: st)) := by
  subst hpF
  by_cases q0 : ¬ (0 : Int32) < x
  · have q := q0
    exact Go.by (fun t r => XS.ifYes X.here hx rfl rfl (hb hby hd) rfl ((if0 _ _).trans (flt q).2.2.2) hp.1 hp.2 r) (kT q0)
  · have q : (0 : Int32) < x := by first | exact q0 | exact Classical.not_not.mp q0
    exact Go.by (fun t r => XS.ifNo X.here hx rfl (hb hby hd) rfl ((if0 _ _).trans (tlt q).2.2.2) r) (kF q)
theorem own_lcmp_le (X : Stand p l e R s m args below meth c T locs cells slots) (hx : p.tables.exec = Jvm.exec) (hby : c.code = bs) {o : Int} {x y : Int64} (hd : decode bs pc = .ok (.lcmp, 1)) (hd2 : decode bs (pc + 1) = .ok (.ifCond .le o, 3)) (pT pF : Nat) (hp : 0 ≤ ((pc + 1 : Nat) : Int) + o ∧ (((pc + 1 : Nat) : Int) + o).toNat = pT) (hpF : pc + 4 = pF) (kT : ¬ y < x → Go p e below G T (mkF m pT Ls st)) (kF : y < x → Go p e below G T (mkF m pF Ls st)) : Go p e below G T (mkF m pc Ls (.long y :: .long x :: st)) := by
  refine Go.by (fun t r => XS.lcmp X.here hx rfl (hb hby hd) rfl r) (g' := mkF m (pc + 1) Ls (.int (lcmpW x y) :: st)) ?_
  refine own_if_le X hx hby hd2 pT pF hp (by omega) (fun q => kT ?_) (fun q => kF ?_)
  · exact fun r => q ((lw_gt x y).mpr r)
  · exact (lw_gt x y).mp q
theorem own_ifnullY (X : Stand p l e R s m args below meth c T locs cells slots) (hx : p.tables.exec = Jvm.exec) (hby : c.code = bs) {o : Int}  (hd : decode bs pc = .ok (.ifnull o, 3)) (pc' : Nat) (hp : 0 ≤ (pc : Int) + o ∧ ((pc : Int) + o).toNat = pc') (k : Go p e below G T (mkF m pc' Ls st)) : Go p e below G T (mkF m pc Ls (.null :: st)) :=
  Go.by (fun t q => XS.ifnullYes X.here hx rfl rfl (hb hby hd) rfl hp.1 hp.2 q) k
theorem own_ifnullN (X : Stand p l e R s m args below meth c T locs cells slots) (hx : p.tables.exec = Jvm.exec) (hby : c.code = bs) {o : Int} {b : Addr} (hd : decode bs pc = .ok (.ifnull o, 3)) (pc' : Nat) (hp : pc + 3 = pc') (k : Go p e below G T (mkF m pc' Ls st)) : Go p e below G T (mkF m pc Ls (.ref b :: st)) := by
  subst hp
  exact Go.by (fun t q => XS.ifnullNo X.here hx rfl (hb hby hd) rfl q) k
theorem own_ifnonnullY (X : Stand p l e R s m args below meth c T locs cells slots) (hx : p.tables.exec = Jvm.exec) (hby : c.code = bs) {o : Int} {b : Addr} (hd : decode bs pc = .ok (.ifnonnull o, 3)) (pc' : Nat) (hp : 0 ≤ (pc : Int) + o ∧ ((pc : Int) + o).toNat = pc') (k : Go p e below G T (mkF m pc' Ls st)) : Go p e below G T (mkF m pc Ls (.ref b :: st)) :=
  Go.by (fun t q => XS.ifnonnullYes X.here hx rfl rfl (hb hby hd) rfl hp.1 hp.2 q) k
theorem own_ifnonnullN (X : Stand p l e R s m args below meth c T locs cells slots) (hx : p.tables.exec = Jvm.exec) (hby : c.code = bs) {o : Int}  (hd : decode bs pc = .ok (.ifnonnull o, 3)) (pc' : Nat) (hp : pc + 3 = pc') (k : Go p e below G T (mkF m pc' Ls st)) : Go p e below G T (mkF m pc Ls (.null :: st)) := by
  subst hp
  exact Go.by (fun t q => XS.ifnonnullNo X.here hx rfl (hb hby hd) rfl q) k
theorem own_ldc (X : Stand p l e R s m args below meth c T locs cells slots) (hx : p.tables.exec = Jvm.exec) (hby : c.code = bs) (hZ : Z.Warmed39 s.vm) {own : String} {idx : Nat} (v : Int32) (hown : s.vm.findClass own = some m.cls) (w : (Jvm.Cond.constant own idx v).before a0 Z = true) (hd : decode bs pc = .ok (.ldc idx, 2)) (pc' : Nat) (hp : pc + 2 = pc') (k : Go p e below G T (mkF m pc' Ls (.int v :: st))) : Go p e below G T (mkF m pc Ls st) := by
  subst hp
  exact Go.by (fun t q => X.ldcInt hx hown (mvT hZ w) (g := mkF m pc Ls st) rfl (hb hby hd) t q) k
theorem own_ldc2 (X : Stand p l e R s m args below meth c T locs cells slots) (hx : p.tables.exec = Jvm.exec) (hby : c.code = bs) (hZ : Z.Warmed39 s.vm) {own : String} {idx : Nat} (v : Int64) (hown : s.vm.findClass own = some m.cls) (w : (Jvm.Cond.constantLong own idx v).before a0 Z = true) (hd : decode bs pc = .ok (.ldc2_w idx, 3)) (pc' : Nat) (hp : pc + 3 = pc') (k : Go p e below G T (mkF m pc' Ls (.long v :: st))) : Go p e below G T (mkF m pc Ls st) := by
  subst hp
  exact Go.by (fun t q => X.ldc2Long hx hown (mvT hZ w) (g := mkF m pc Ls st) rfl (hb hby hd) t q) k
theorem own_callS (X : Stand p l e R s m args below meth c T locs cells slots) (hx : p.tables.exec = Jvm.exec) (hby : c.code = bs) (hZ : Z.Warmed39 s.vm) {own : String} {idx : Nat} {y : MethodName} {yb : ByteArray} {yml : Nat} {yrt : Option FieldType} {rm : Room} {as : Array Value} {Qc : Option Value → Heap → List Loc → Prop} (argsL : List Value) (has : argsL.toArray = as) (hown : s.vm.findClass own = some m.cls) (w1 : (Jvm.Cond.methodLink own idx y).before a0 Z = true) (w2 : (Jvm.Cond.static y).before a0 Z = true) (w3 : (Jvm.Cond.initialized y.cls).before a0 Z = true) (w4 : (Jvm.Cond.code y yb yml yrt).before a0 Z = true) (hy : y.cls ≠ "java/lang/invoke/MethodHandle" ∧ y.cls ≠ "java/lang/invoke/VarHandle") (hd : decode bs pc = .ok (.invokestatic idx, 3)) (hM : Met1 l Z y yb yml yrt rm as h Qc) (eT : T.heap = h) {ps : List FieldType} {pr : Option FieldType} (hpd : parseMethodDescriptor y.desc = some ⟨ps, pr⟩) (hlen : argsL.length = ps.length) (hml : Ls.size = c.maxLocals) (hf : rm.frames + 1 ≤ R.frames) (W : Nat) (hW : (st.map fun v => v.category).sum = W) (hl : W + (yml + 11) + rm.locals ≤ R.locals) (hcl : cells + rm.cells ≤ R.cells) (hsl : slots + rm.slots ≤ R.slots) (pc' : Nat) (hp : pc + 3 = pc') (k : ∀ (T' : State) (L : List Loc) (v : Option Value), Stand p l e R s m args below meth c T' (locs ++ L) (cells + rm.cells) (slots + rm.slots) → Qc v T'.heap L → Go p e below G T' (mkF m pc' Ls (v.toList ++ st))) : Go p e below G T (mkF m pc Ls (argsL.reverse ++ st)) := by
  subst has
  subst hp
  obtain ⟨v, vm₁, ⟨T1, L1, k1, n1⟩, -, X1, ⟨Lc, hQ, l1, y1, z1⟩, st1⟩ := Jvm.LawKit.callS X hx (y := y) hown (mvT hZ w1) (mvT hZ w2) (mvT hZ w3) (mvT hZ w4) hy (backOf (W := W) (hM []) hZ w4 w3 hf hl) (g := mkF m pc Ls (argsL.reverse ++ st)) rfl hml (argsL := argsL) (rest := st) (lenOf hpd hlen) rfl (by show 2 * 0 + _ ≤ _; omega) (hb hby hd) (fun _ _ => ⟨rfl, eT, hcl, hsl⟩)
  dsimp only [Pt.U, Pt.locs, Pt.cells, Pt.slots] at X1 l1 y1 z1 st1 hQ
  subst l1 y1 z1
  exact Go.by (fun t q => st1 t q) (k T1 Lc v X1 hQ)
theorem own_callC (X : Stand p l e R s m args below meth c T locs cells slots) (hx : p.tables.exec = Jvm.exec) (hby : c.code = bs) (hZ : Z.Warmed39 s.vm) {own : String} {idx : Nat} {y : MethodName} {yb : ByteArray} {yml : Nat} {rm : Room} {as : Array Value} {Qc : Option Value → Heap → List Loc → Prop} {a : Addr} (argsL : List Value) (has : (.ref a :: argsL).toArray = as) (hy1 : y.name = "<init>") (hown : s.vm.findClass own = some m.cls) (w1 : (Jvm.Cond.methodLink own idx y).before a0 Z = true) (w2 : (Jvm.Cond.instanceMethod y).before a0 Z = true) (w3 : (Jvm.Cond.initialized y.cls).before a0 Z = true) (w4 : (Jvm.Cond.code y yb yml none).before a0 Z = true) (hy : y.cls ≠ "java/lang/invoke/MethodHandle" ∧ y.cls ≠ "java/lang/invoke/VarHandle") (hd : decode bs pc = .ok (.invokespecial idx, 3)) (hM : Met1 l Z y yb yml none rm as h Qc) (eT : T.heap = h) {ps : List FieldType} {pr : Option FieldType} (hpd : parseMethodDescriptor y.desc = some ⟨ps, pr⟩) (hlen : argsL.length = ps.length) (hml : Ls.size = c.maxLocals) (hf : rm.frames + 1 ≤ R.frames) (W : Nat) (hW : (st.map fun v => v.category).sum = W) (hl : W + (yml + 11) + rm.locals ≤ R.locals) (hcl : cells + rm.cells ≤ R.cells) (hsl : slots + rm.slots ≤ R.slots) (pc' : Nat) (hp : pc + 3 = pc') (k : ∀ (T' : State) (L : List Loc) (v : Option Value), Stand p l e R s m args below meth c T' (locs ++ L) (cells + rm.cells) (slots + rm.slots) → Qc v T'.heap L → Go p e below G T' (mkF m pc' Ls (v.toList ++ st))) : Go p e below G T (mkF m pc Ls (argsL.reverse ++ .ref a :: st)) := by
  subst has
  subst hp
  obtain ⟨v, vm₁, ⟨T1, L1, k1, n1⟩, -, X1, ⟨Lc, hQ, l1, y1, z1⟩, st1⟩ := X.specialBack hx (y := y) hy1 hown (mvT hZ w1) (mvT hZ w2) (mvT hZ w4) hy (backOf (W := W) (hM []) hZ w4 w3 hf hl) (g := mkF m pc Ls (argsL.reverse ++ .ref a :: st)) rfl hml (Steps.refl _) (a := a) (argsL := argsL) (rest := st) (lenOf hpd hlen) rfl (by show 2 * 0 + _ ≤ _; omega) (hb hby hd) (fun _ _ => ⟨rfl, eT, hcl, hsl⟩)
  dsimp only [Pt.U, Pt.locs, Pt.cells, Pt.slots] at X1 l1 y1 z1 st1 hQ
  subst l1 y1 z1
  exact Go.by (fun t q => st1.trans q) (k T1 Lc v X1 hQ)
theorem own_callV (X : Stand p l e R s m args below meth c T locs cells slots) (hx : p.tables.exec = Jvm.exec) (hby : c.code = bs) (hZ : Z.Warmed39 s.vm) {own : String} {idx : Nat} {y : MethodName} {yb : ByteArray} {yml : Nat} {yrt : Option FieldType} {rm : Room} {as : Array Value} {Qc : Option Value → Heap → List Loc → Prop} {a : Addr} {C : String} (argsL : List Value) (has : (.ref a :: argsL).toArray = as) (hown : s.vm.findClass own = some m.cls) (w1 : (Jvm.Cond.methodLink own idx y).before a0 Z = true) (w5 : (Jvm.Cond.declares y).before a0 Z = true) (w6 : (Jvm.Cond.selects C y y).before a0 Z = true) (w2 : (Jvm.Cond.instanceMethod y).before a0 Z = true) (w3 : (Jvm.Cond.initialized y.cls).before a0 Z = true) (w4 : (Jvm.Cond.code y yb yml yrt).before a0 Z = true) (E : Exa Z h a C) (hy : y.cls ≠ "java/lang/invoke/MethodHandle" ∧ y.cls ≠ "java/lang/invoke/VarHandle") (hd : decode bs pc = .ok (.invokevirtual idx, 3)) (hM : Met1 l Z y yb yml yrt rm as h Qc) (eT : T.heap = h) {ps : List FieldType} {pr : Option FieldType} (hpd : parseMethodDescriptor y.desc = some ⟨ps, pr⟩) (hlen : argsL.length = ps.length) (hml : Ls.size = c.maxLocals) (hf : rm.frames + 1 ≤ R.frames) (W : Nat) (hW : (st.map fun v => v.category).sum = W) (hl : W + (yml + 11) + rm.locals ≤ R.locals) (hcl : cells + rm.cells ≤ R.cells) (hsl : slots + rm.slots ≤ R.slots) (pc' : Nat) (hp : pc + 3 = pc') (k : ∀ (T' : State) (L : List Loc) (v : Option Value), Stand p l e R s m args below meth c T' (locs ++ L) (cells + rm.cells) (slots + rm.slots) → Qc v T'.heap L → Go p e below G T' (mkF m pc' Ls (v.toList ++ st))) : Go p e below G T (mkF m pc Ls (argsL.reverse ++ .ref a :: st)) := by
  subst has
  obtain ⟨cq, kq, qa, qb, qc⟩ := isOf hZ eT E
  subst hp
  obtain ⟨v, vm₁, ⟨T1, L1, k1, n1⟩, -, X1, ⟨Lc, hQ, l1, y1, z1⟩, st1⟩ := X.virtualBack hx (y := y) (z := y) hown (mvT hZ w1) (mvT hZ w5) (notFace_of_selects (args := #[]) (mvT hZ w6)) (mvT hZ w6) (mvT hZ w2) hy (backOf (W := W) (hM []) hZ w4 w3 hf hl) qa qc (g := mkF m pc Ls (argsL.reverse ++ .ref a :: st)) rfl hml (Steps.refl _) (argsL := argsL) (rest := st) (lenOf hpd hlen) rfl (by show 2 * 0 + _ ≤ _; omega) (hb hby hd) (fun _ _ => ⟨rfl, eT, hcl, hsl⟩)
  dsimp only [Pt.U, Pt.locs, Pt.cells, Pt.slots] at X1 l1 y1 z1 st1 hQ
  subst l1 y1 z1
  exact Go.by (fun t q => st1.trans q) (k T1 Lc v X1 hQ)
theorem own_getF (X : Stand p l e R s m args below meth c T locs cells slots) (hx : p.tables.exec = Jvm.exec) (hby : c.code = bs) (hZ : Z.Warmed39 s.vm) {own R0 O n d host : String} {idx : Nat} {a : Addr} {v : Value} (hown : s.vm.findClass own = some m.cls) (w : (Jvm.Cond.fieldLink own idx R0 n d).before a0 Z = true ∨ (Jvm.Cond.fieldLinkNest own idx R0 n d host).before a0 Z = true) (via : Via Z R0 O n d) (eT : T.heap = h) (F : Fld Z h a O n d v) (hd : decode bs pc = .ok (.getfield idx, 3)) (pc' : Nat) (hp : pc + 3 = pc') (k : ∀ T', Stand p l e R s m args below meth c T' locs cells slots → T'.heap = h → Go p e below G T' (mkF m pc' Ls (v :: st))) : Go p e below G T (mkF m pc Ls (.ref a :: st)) := by
  subst hp
  obtain ⟨T1, X1, e1, st1⟩ := getF X hx hZ hown w via eT F (g := mkF m pc Ls (.ref a :: st)) rfl rfl (hb hby hd)
  exact Go.by (fun t q => st1 t q) (k T1 X1 e1)
theorem own_putF (X : Stand p l e R s m args below meth c T locs cells slots) (hx : p.tables.exec = Jvm.exec) (hby : c.code = bs) (hZ : Z.Warmed39 s.vm) {own R0 O n d host C : String} {idx kk : Nat} {a : Addr} {v old : Value} {ty : FieldType} (hown : s.vm.findClass own = some m.cls) (w : (Jvm.Cond.fieldLink own idx R0 n d).before a0 Z = true ∨ (Jvm.Cond.fieldLinkNest own idx R0 n d host).before a0 Z = true) (via : Via Z R0 O n d) (eT : T.heap = h) (F : Fld Z h a O n d old) (E : Exa Z h a C) (lw : (Jvm.Cond.lays C O n d).before a0 Z = true ∨ ((Jvm.Cond.laysFinal C O n d).before a0 Z = true ∧ own = O ∧ meth.name = "<init>")) (wi : (Jvm.Cond.instantiable C kk).before a0 Z = true) (hty : parseFieldDescriptor d = some ty) (hn : narrow ty v = v) (hf : fits ty v = true) (hd : decode bs pc = .ok (.putfield idx, 3)) (pc' : Nat) (hp : pc + 3 = pc') (k : ∀ T' h', Stand p l e R s m args below meth c T' (locs ++ [⟨a, Jvm.RoadKit.slotOf Z O n d⟩]) cells slots → T'.heap = h' → Wr h h' a (Jvm.RoadKit.slotOf Z O n d) v → Go p e below G T' (mkF m pc' Ls st)) : Go p e below G T (mkF m pc Ls (v :: .ref a :: st)) := by
  subst hp
  obtain ⟨T1, h1, X1, e1, W1, st1⟩ := putF X hx hZ hown w via eT F E lw wi hty hn hf (g := mkF m pc Ls (v :: .ref a :: st)) rfl rfl (hb hby hd)
  exact Go.by (fun t q => st1 t q) (k T1 h1 X1 e1 W1)
theorem own_new (X : Stand p l e R s m args below meth c T locs cells slots) (hx : p.tables.exec = Jvm.exec) (hby : c.code = bs) (hZ : Z.Warmed39 s.vm) {own C : String} {idx n : Nat} (hown : s.vm.findClass own = some m.cls) (w : (Jvm.Cond.classLink own idx C).before a0 Z = true) (wi : (Jvm.Cond.instantiable C n).before a0 Z = true) (wz : (Jvm.Cond.initialized C).before a0 Z = true) (eT : T.heap = h) (hd : decode bs pc = .ok (.new idx, 3)) (hcl : cells + 1 ≤ R.cells) (hsl : slots + n ≤ R.slots) (pc' : Nat) (hp : pc + 3 = pc') (k : ∀ T' h' (b : Addr), b = h.size → Stand p l e R s m args below meth c T' locs (cells + 1) (slots + n) → T'.heap = h' → Ext h h' → Exa Z h' b C → (∀ {O nm d : String} {ty : FieldType}, Laid Z a0 C O nm d → parseFieldDescriptor d = some ty → Fld Z h' b O nm d (defaultValue ty)) → Go p e below G T' (mkF m pc' Ls (.ref b :: st))) : Go p e below G T (mkF m pc Ls st) := by
  subst hp
  obtain ⟨T1, h1, X1, e1, E1, A1, D1, -, st1⟩ := newO X hx hZ hown w wi wz eT (g := mkF m pc Ls st) rfl (hb hby hd) hcl hsl
  exact Go.by (fun t q => st1 t q) (k T1 h1 _ rfl X1 e1 E1 A1 D1)
theorem own_initO (X : Stand p l e R s m args below meth c T locs cells slots) (hx : p.tables.exec = Jvm.exec) (hby : c.code = bs) (hZ : Z.Warmed39 s.vm) {own : String} {idx : Nat} {a : Addr} (hown : s.vm.findClass own = some m.cls) (w1 : (Jvm.Cond.methodLink own idx Lib.objectInit).before a0 Z = true) (w2 : (Jvm.Cond.instanceMethod Lib.objectInit).before a0 Z = true) (w3 : (Jvm.Cond.code Lib.objectInit ⟨#[0xb1]⟩ 1 none).before a0 Z = true) (eT : T.heap = h) (hml : Ls.size = c.maxLocals) (hd : decode bs pc = .ok (.invokespecial idx, 3)) (hf : 1 ≤ R.frames) (W : Nat) (hW : (st.map fun v => v.category).sum = W) (hl : W + 12 ≤ R.locals) (pc' : Nat) (hp : pc + 3 = pc') (k : ∀ T', Stand p l e R s m args below meth c T' locs cells slots → T'.heap = h → Go p e below G T' (mkF m pc' Ls st)) : Go p e below G T (mkF m pc Ls (.ref a :: st)) := by
  subst hp
  obtain ⟨T1, X1, e1, st1⟩ := initO X hx hZ hown w1 w2 w3 eT (g := mkF m pc Ls (.ref a :: st)) rfl hml rfl (hb hby hd) hf (W := W) (by show 2 * 0 + _ ≤ _; omega) hl
  exact Go.by (fun t q => st1 t q) (k T1 X1 e1)
theorem own_putFN (X : Stand p l e R s m args below meth c T locs cells slots) (hx : p.tables.exec = Jvm.exec) (hby : c.code = bs) (hZ : Z.Warmed39 s.vm) {own R0 O n d C : String} {idx kk : Nat} {a : Addr} {v v' old : Value} {ty : FieldType} (hown : s.vm.findClass own = some m.cls) (w : (Jvm.Cond.fieldLink own idx R0 n d).before a0 Z = true) (via : Via Z R0 O n d) (eT : T.heap = h) (F : Fld Z h a O n d old) (E : Exa Z h a C) (lw : (Jvm.Cond.lays C O n d).before a0 Z = true ∨ ((Jvm.Cond.laysFinal C O n d).before a0 Z = true ∧ own = O ∧ meth.name = "<init>")) (wi : (Jvm.Cond.instantiable C kk).before a0 Z = true) (hty : parseFieldDescriptor d = some ty) (hn : narrow ty v = v') (hf : fits ty v' = true) (hd : decode bs pc = .ok (.putfield idx, 3)) (pc' : Nat) (hp : pc + 3 = pc') (k : ∀ T' h', Stand p l e R s m args below meth c T' (locs ++ [⟨a, Jvm.RoadKit.slotOf Z O n d⟩]) cells slots → T'.heap = h' → Wr h h' a (Jvm.RoadKit.slotOf Z O n d) v' → Go p e below G T' (mkF m pc' Ls st)) : Go p e below G T (mkF m pc Ls (v :: .ref a :: st)) := by
  subst hp
  obtain ⟨T1, h1, X1, e1, W1, st1⟩ := putFN X hx hZ hown w via eT F E lw wi hty hn hf (g := mkF m pc Ls (v :: .ref a :: st)) rfl rfl (hb hby hd)
  exact Go.by (fun t q => st1 t q) (k T1 h1 X1 e1 W1)
theorem own_callP (X : Stand p l e R s m args below meth c T locs cells slots) (hx : p.tables.exec = Jvm.exec) (hby : c.code = bs) (hZ : Z.Warmed39 s.vm) {own : String} {idx : Nat} {y : MethodName} {yb : ByteArray} {yml : Nat} {yrt : Option FieldType} {rm : Room} {as : Array Value} {Qc : Option Value → Heap → List Loc → Prop} {a : Addr} {C : String} (argsL : List Value) (has : (.ref a :: argsL).toArray = as) (hown : s.vm.findClass own = some m.cls) (w1 : (Jvm.Cond.methodLink own idx y).before a0 Z = true) (w2 : (Jvm.Cond.instanceMethod y).before a0 Z = true) {kk : Nat} (w6 : (Jvm.Cond.instantiable y.cls kk).before a0 Z = true) (w7 : (Jvm.Cond.privateMethod y).before a0 Z = true) (w3 : (Jvm.Cond.initialized y.cls).before a0 Z = true) (w4 : (Jvm.Cond.code y yb yml yrt).before a0 Z = true) (E : Exa Z h a C) (hy : y.cls ≠ "java/lang/invoke/MethodHandle" ∧ y.cls ≠ "java/lang/invoke/VarHandle") (hd : decode bs pc = .ok (.invokevirtual idx, 3)) (hM : Met1 l Z y yb yml yrt rm as h Qc) (eT : T.heap = h) {ps : List FieldType} {pr : Option FieldType} (hpd : parseMethodDescriptor y.desc = some ⟨ps, pr⟩) (hlen : argsL.length = ps.length) (hml : Ls.size = c.maxLocals) (hf : rm.frames + 1 ≤ R.frames) (W : Nat) (hW : (st.map fun v => v.category).sum = W) (hl : W + (yml + 11) + rm.locals ≤ R.locals) (hcl : cells + rm.cells ≤ R.cells) (hsl : slots + rm.slots ≤ R.slots) (pc' : Nat) (hp : pc + 3 = pc') (k : ∀ (T' : State) (L : List Loc) (v : Option Value), Stand p l e R s m args below meth c T' (locs ++ L) (cells + rm.cells) (slots + rm.slots) → Qc v T'.heap L → Go p e below G T' (mkF m pc' Ls (v.toList ++ st))) : Go p e below G T (mkF m pc Ls (argsL.reverse ++ .ref a :: st)) := by
  subst has
  obtain ⟨cq, q1, q2⟩ := E.cell
  have pv := Cond.privateMethod_at (mvP hZ w7 (args := #[]))
  have sel : (Jvm.Cond.selects y.cls y y).before args s = true := by
    obtain ⟨c1, k1, r1, r2, -, r3, -, -⟩ := Cond.instantiable_spec (mvT (args := args) hZ w6)
    exact selects_self_of_private r1 r2 (Bool.or_eq_false_iff.mp r3).1 pv (mvT hZ w2) hy
  subst hp
  obtain ⟨v, vm₁, ⟨T1, L1, k1, n1⟩, -, X1, ⟨Lc, hQ, l1, y1, z1⟩, st1⟩ := X.privateBack hx (y := y) hown (mvT hZ w1) (mvT hZ w2) sel pv (mvT hZ w4) hy (backOf (W := W) (hM []) hZ w4 w3 hf hl) (g := mkF m pc Ls (argsL.reverse ++ .ref a :: st)) rfl hml (Steps.refl _) (a := a) (by rw [eT]; exact q1) q2 (argsL := argsL) (rest := st) (lenOf hpd hlen) rfl (by show 2 * 0 + _ ≤ _; omega) (hb hby hd) (fun _ _ => ⟨rfl, eT, hcl, hsl⟩)
  dsimp only [Pt.U, Pt.locs, Pt.cells, Pt.slots] at X1 l1 y1 z1 st1 hQ
  subst l1 y1 z1
  exact Go.by (fun t q => st1.trans q) (k T1 Lc v X1 hQ)
theorem own_instY (X : Stand p l e R s m args below meth c T locs cells slots) (hx : p.tables.exec = Jvm.exec) (hby : c.code = bs) (hZ : Z.Warmed39 s.vm) {own K : String} {idx : Nat} {a : Addr} (hown : s.vm.findClass own = some m.cls) (w : (Jvm.Cond.classLink own idx K).before a0 Z = true) (eT : T.heap = h) (F : Ins Z h a K true) (hd : decode bs pc = .ok (.instanceof idx, 3)) (pc' : Nat) (hp : pc + 3 = pc') (k : ∀ T', Stand p l e R s m args below meth c T' locs cells slots → T'.heap = h → Go p e below G T' (mkF m pc' Ls (.int 1 :: st))) : Go p e below G T (mkF m pc Ls (.ref a :: st)) := by
  subst hp
  obtain ⟨T1, X1, e1, st1⟩ := instY X hx hZ hown w eT F (g := mkF m pc Ls (.ref a :: st)) rfl rfl (hb hby hd)
  exact Go.by (fun t q => st1 t q) (k T1 X1 e1)
theorem own_instNo (X : Stand p l e R s m args below meth c T locs cells slots) (hx : p.tables.exec = Jvm.exec) (hby : c.code = bs) (hZ : Z.Warmed39 s.vm) {own K : String} {idx : Nat} {a : Addr} (hown : s.vm.findClass own = some m.cls) (w : (Jvm.Cond.classLink own idx K).before a0 Z = true) (eT : T.heap = h) {C : String} (E : Exa Z h a C) (F : ∃ c t, Z.vm.findClass C = some c ∧ Z.vm.findClass K = some t ∧ Z.vm.assignable c t = false) (hd : decode bs pc = .ok (.instanceof idx, 3)) (pc' : Nat) (hp : pc + 3 = pc') (k : ∀ T', Stand p l e R s m args below meth c T' locs cells slots → T'.heap = h → Go p e below G T' (mkF m pc' Ls (.int 0 :: st))) : Go p e below G T (mkF m pc Ls (.ref a :: st)) := by
  subst hp
  obtain ⟨T1, X1, e1, st1⟩ := instNo X hx hZ hown w eT E F (g := mkF m pc Ls (.ref a :: st)) rfl rfl (hb hby hd)
  exact Go.by (fun t q => st1 t q) (k T1 X1 e1)
theorem own_castY (X : Stand p l e R s m args below meth c T locs cells slots) (hx : p.tables.exec = Jvm.exec) (hby : c.code = bs) (hZ : Z.Warmed39 s.vm) {own K : String} {idx : Nat} {a : Addr} (hown : s.vm.findClass own = some m.cls) (w : (Jvm.Cond.classLink own idx K).before a0 Z = true) (eT : T.heap = h) (F : Ins Z h a K true) (hd : decode bs pc = .ok (.checkcast idx, 3)) (pc' : Nat) (hp : pc + 3 = pc') (k : ∀ T', Stand p l e R s m args below meth c T' locs cells slots → T'.heap = h → Go p e below G T' (mkF m pc' Ls (.ref a :: st))) : Go p e below G T (mkF m pc Ls (.ref a :: st)) := by
  subst hp
  obtain ⟨T1, X1, e1, st1⟩ := castY X hx hZ hown w eT F (g := mkF m pc Ls (.ref a :: st)) rfl rfl (hb hby hd)
  exact Go.by (fun t q => st1 t q) (k T1 X1 e1)
theorem own_instNull (X : Stand p l e R s m args below meth c T locs cells slots) (hx : p.tables.exec = Jvm.exec) (hby : c.code = bs) {idx : Nat} (hd : decode bs pc = .ok (.instanceof idx, 3)) (pc' : Nat) (hp : pc + 3 = pc') (k : Go p e below G T (mkF m pc' Ls (.int 0 :: st))) : Go p e below G T (mkF m pc Ls (.null :: st)) := by
  subst hp
  exact Go.by (fun t q => X.instanceofNull hx (g := mkF m pc Ls (.null :: st)) rfl rfl (hb hby hd) t q) k
theorem own_castNull (X : Stand p l e R s m args below meth c T locs cells slots) (hx : p.tables.exec = Jvm.exec) (hby : c.code = bs) {idx : Nat} (hd : decode bs pc = .ok (.checkcast idx, 3)) (pc' : Nat) (hp : pc + 3 = pc') (k : Go p e below G T (mkF m pc' Ls (.null :: st))) : Go p e below G T (mkF m pc Ls (.null :: st)) := by
  subst hp
  exact Go.by (fun t q => X.checkcastNull hx (g := mkF m pc Ls (.null :: st)) rfl rfl (hb hby hd) t q) k
theorem own_acmp (X : Stand p l e R s m args below meth c T locs cells slots) (hx : p.tables.exec = Jvm.exec) (hby : c.code = bs) {cd : ACond} {o : Int} {x y : Value} (same : Bool) (hd : decode bs pc = .ok (.if_acmp cd o, 3)) (h1 : x.isRef = true) (h2 : y.isRef = true) (hq : decide (x = y) = same) (ho : 0 ≤ (pc : Int) + o) (pc' : Nat) (hp : pc' = if acV cd same = true then ((pc : Int) + o).toNat else pc + 3) (k : Go p e below G T (mkF m pc' Ls st)) : Go p e below G T (mkF m pc Ls (y :: x :: st)) :=
  Go.by (fun t q => Jvm.RoadKit.acmp (g := mkF m pc Ls (y :: x :: st)) X hx rfl h1 h2 (pc0 := pc) (pc' := pc') (same := same) rfl (hb hby hd) rfl hq ho hp q) k
theorem own_getS (X : Stand p l e R s m args below meth c T locs cells slots) (hx : p.tables.exec = Jvm.exec) (hby : c.code = bs) (hZ : Z.Warmed39 s.vm) {own R0 O n d host : String} {idx : Nat} {v : Value} (hown : s.vm.findClass own = some m.cls) (w : (Jvm.Cond.fieldLink own idx R0 n d).before a0 Z = true ∨ (Jvm.Cond.fieldLinkNest own idx R0 n d host).before a0 Z = true) (via : Via Z R0 O n d) (eT : T.heap = h) (F : Sta Z h O n d v) (hd : decode bs pc = .ok (.getstatic idx, 3)) (pc' : Nat) (hp : pc + 3 = pc') (k : ∀ T', Stand p l e R s m args below meth c T' locs cells slots → T'.heap = h → Go p e below G T' (mkF m pc' Ls (v :: st))) : Go p e below G T (mkF m pc Ls st) := by
  subst hp
  obtain ⟨T1, X1, e1, st1⟩ := getS2 X hx hZ hown w via eT F (g := mkF m pc Ls st) rfl (hb hby hd)
  exact Go.by (fun t q => st1 t q) (k T1 X1 e1)
/-- an array of n places that hold what f says -/
def Afn (Z : State) (h : Heap) (a : Addr) (ty : FieldType) (n : Nat) (f : Nat → Value) : Prop := ∃ cl : Cell, Arr Z h a cl ty ∧ cl.slots.size = n ∧ ∀ i, i < n → cl.slots[i]? = some (f i) ∧ fits ty (f i) = true
def upd (f : Nat → Value) (i : Nat) (v : Value) : Nat → Value := fun j => if j = i then v else f j
theorem Afn.lt {a : Addr} {ty : FieldType} {n : Nat} {f : Nat → Value} (F : Afn Z h a ty n f) : a < h.size := by obtain ⟨cl, A, -⟩ := F; exact A.lt
theorem Afn.ext {h' : Heap} {a : Addr} {ty : FieldType} {n : Nat} {f : Nat → Value} (F : Afn Z h a ty n f) (E : Ext h h') : Afn Z h' a ty n f := by obtain ⟨cl, A, r⟩ := F; exact ⟨cl, A.ext E, r⟩
theorem Afn.other {h' : Heap} {a b : Addr} {sl : Nat} {v : Value} {ty : FieldType} {n : Nat} {f : Nat → Value} (F : Afn Z h b ty n f) (W : Wr h h' a sl v) (q : b ≠ a) : Afn Z h' b ty n f := by obtain ⟨cl, A, r⟩ := F; exact ⟨cl, A.other W q, r⟩
theorem Afn.keep {h' : Heap} {a : Addr} {ws : List Addr} {ty : FieldType} {n : Nat} {f : Nat → Value} (F : Afn Z h a ty n f) (K : Keep h h' ws) (q : a ∉ ws) : Afn Z h' a ty n f := by obtain ⟨cl, A, r⟩ := F; exact ⟨cl, ⟨K.2.1 a cl A.1 q, A.2⟩, r⟩
theorem Afn.to {a : Addr} {ty : FieldType} {n : Nat} {f f' : Nat → Value} (F : Afn Z h a ty n f) (q : ∀ i, i < n → f i = f' i) : Afn Z h a ty n f' := by obtain ⟨cl, A, S, H⟩ := F; exact ⟨cl, A, S, fun i hi => q i hi ▸ H i hi⟩
theorem Afn.new {a : Addr} {k : ClassId} {ty : FieldType} {z : Int32} {n : Nat} (A : Arr Z h a (newA k ty z) ty) (q : z.toNatClampNeg = n) : Afn Z h a ty n (fun _ => defaultValue ty) := by
  refine ⟨_, A, by rw [sz_new]; exact q, fun i hi => ⟨?_, by cases ty <;> rfl⟩⟩
  subst q
  show (Array.replicate z.toNatClampNeg (defaultValue ty))[i]? = _
  rw [Array.getElem?_replicate, if_pos hi]
theorem Afn.set {h' : Heap} {a : Addr} {ty : FieldType} {n i : Nat} {v : Value} {f : Nat → Value} (F : Afn Z h a ty n f) (W : Wr h h' a i v) (hi : i < n) (hv : fits ty v = true) : Afn Z h' a ty n (upd f i v) := by
  obtain ⟨cl, A, S, H⟩ := F
  refine ⟨cl.setSlot i v, A.same W, by rw [sz_set]; exact S, fun j hj => ?_⟩
  unfold upd
  by_cases q : j = i
  · subst q
    rw [if_pos rfl]
    refine ⟨?_, hv⟩
    show (cl.slots.setIfInBounds j v)[j]? = some v
    rw [Array.getElem?_setIfInBounds_self_of_lt (by rw [S]; exact hj)]
  · rw [if_neg q]
    refine ⟨?_, (H j hj).2⟩
    rw [← (H j hj).1]
    exact Array.getElem?_setIfInBounds_ne (Ne.symm q)
theorem own_in {j : Int32} {n : Nat} (h0 : 0 ≤ j.toInt) (h1 : j.toInt < n) : ¬ (j < 0 ∨ n ≤ j.toNatClampNeg) := by
  simp only [Int32.lt_iff_toInt_lt, Int32.toNatClampNeg, Int32.reduceToInt]; omega
/-- an array of ints (bytes, chars, shorts): n places that hold what g says -/
def Afi (Z : State) (h : Heap) (a : Addr) (ty : FieldType) (n : Nat) (g : Nat → Int32) : Prop := Afn Z h a ty n (fun i => .int (g i))
def updI (g : Nat → Int32) (i : Nat) (v : Int32) : Nat → Int32 := fun j => if j = i then v else g j
theorem Afi.lt {a : Addr} {ty : FieldType} {n : Nat} {g : Nat → Int32} (F : Afi Z h a ty n g) : a < h.size := Afn.lt F
theorem Afi.ext {h' : Heap} {a : Addr} {ty : FieldType} {n : Nat} {g : Nat → Int32} (F : Afi Z h a ty n g) (E : Ext h h') : Afi Z h' a ty n g := Afn.ext F E
theorem Afi.other {h' : Heap} {a b : Addr} {sl : Nat} {v : Value} {ty : FieldType} {n : Nat} {g : Nat → Int32} (F : Afi Z h b ty n g) (W : Wr h h' a sl v) (q : b ≠ a) : Afi Z h' b ty n g := Afn.other F W q
theorem Afi.keep {h' : Heap} {a : Addr} {ws : List Addr} {ty : FieldType} {n : Nat} {g : Nat → Int32} (F : Afi Z h a ty n g) (K : Keep h h' ws) (q : a ∉ ws) : Afi Z h' a ty n g := Afn.keep F K q
theorem Afi.to {a : Addr} {ty : FieldType} {n : Nat} {g g' : Nat → Int32} (F : Afi Z h a ty n g) (q : ∀ i, i < n → g i = g' i) : Afi Z h a ty n g' := Afn.to F fun i hi => congrArg Value.int (q i hi)
theorem Afi.set {h' : Heap} {a : Addr} {ty : FieldType} {n i : Nat} {v : Int32} {g : Nat → Int32} (F : Afi Z h a ty n g) (W : Wr h h' a i (.int v)) (hi : i < n) (hv : fits ty (.int v) = true) : Afi Z h' a ty n (updI g i v) :=
  (Afn.set F W hi hv).to fun j _ => by
    unfold upd updI
    by_cases q : j = i
    · rw [if_pos q, if_pos q]
    · rw [if_neg q, if_neg q]
theorem own_iaload (X : Stand p l e R s m args below meth c T locs cells slots) (hx : p.tables.exec = Jvm.exec) (hby : c.code = bs) (hZ : Z.Warmed39 s.vm) {a : Addr} {j : Int32} {n : Nat} {g : Nat → Int32} (v : Int32) (eT : T.heap = h) (F : Afi Z h a .int n g) (hj : ¬ (j < 0 ∨ n ≤ j.toNatClampNeg)) (hv : g j.toNatClampNeg = v) (hd : decode bs pc = .ok (.iaload, 1)) (pc' : Nat) (hp : pc + 1 = pc') (k : Go p e below G T (mkF m pc' Ls (.int v :: st))) : Go p e below G T (mkF m pc Ls (.int j :: .ref a :: st)) := by
  subst hp
  subst hv
  obtain ⟨cl, A, S, H⟩ := F
  subst S
  exact Go.by (fun t q => X.iaload hx (j := j) (v := .int (g j.toNatClampNeg)) (by rw [eT]; exact A.1) (State.isArrayOf_alike hZ.alike A.2.1) A.2.2 hj (H _ (Nat.lt_of_not_le fun q => hj (Or.inr q))).1 (g := mkF m pc Ls (.int j :: .ref a :: st)) rfl rfl (hb hby hd) t q) k
theorem own_baload (X : Stand p l e R s m args below meth c T locs cells slots) (hx : p.tables.exec = Jvm.exec) (hby : c.code = bs) (hZ : Z.Warmed39 s.vm) {a : Addr} {j : Int32} {n : Nat} {g : Nat → Int32} (v : Int32) (eT : T.heap = h) (F : Afi Z h a .byte n g) (hj : ¬ (j < 0 ∨ n ≤ j.toNatClampNeg)) (hv : g j.toNatClampNeg = v) (hd : decode bs pc = .ok (.baload, 1)) (pc' : Nat) (hp : pc + 1 = pc') (k : Go p e below G T (mkF m pc' Ls (.int v :: st))) : Go p e below G T (mkF m pc Ls (.int j :: .ref a :: st)) := by
  subst hp
  subst hv
  obtain ⟨cl, A, S, H⟩ := F
  subst S
  exact Go.by (fun t q => X.baloadBytes hx (j := j) (v := .int (g j.toNatClampNeg)) (by rw [eT]; exact A.1) (State.isArrayOf_alike hZ.alike A.2.1) A.2.2 hj (H _ (Nat.lt_of_not_le fun q => hj (Or.inr q))).1 (g := mkF m pc Ls (.int j :: .ref a :: st)) rfl rfl (hb hby hd) t q) k
theorem own_caload (X : Stand p l e R s m args below meth c T locs cells slots) (hx : p.tables.exec = Jvm.exec) (hby : c.code = bs) (hZ : Z.Warmed39 s.vm) {a : Addr} {j : Int32} {n : Nat} {g : Nat → Int32} (v : Int32) (eT : T.heap = h) (F : Afi Z h a .char n g) (hj : ¬ (j < 0 ∨ n ≤ j.toNatClampNeg)) (hv : g j.toNatClampNeg = v) (hd : decode bs pc = .ok (.caload, 1)) (pc' : Nat) (hp : pc + 1 = pc') (k : Go p e below G T (mkF m pc' Ls (.int v :: st))) : Go p e below G T (mkF m pc Ls (.int j :: .ref a :: st)) := by
  subst hp
  subst hv
  obtain ⟨cl, A, S, H⟩ := F
  subst S
  exact Go.by (fun t q => X.caload hx (j := j) (v := .int (g j.toNatClampNeg)) (by rw [eT]; exact A.1) (State.isArrayOf_alike hZ.alike A.2.1) A.2.2 hj (H _ (Nat.lt_of_not_le fun q => hj (Or.inr q))).1 (g := mkF m pc Ls (.int j :: .ref a :: st)) rfl rfl (hb hby hd) t q) k
theorem own_saload (X : Stand p l e R s m args below meth c T locs cells slots) (hx : p.tables.exec = Jvm.exec) (hby : c.code = bs) (hZ : Z.Warmed39 s.vm) {a : Addr} {j : Int32} {n : Nat} {g : Nat → Int32} (v : Int32) (eT : T.heap = h) (F : Afi Z h a .short n g) (hj : ¬ (j < 0 ∨ n ≤ j.toNatClampNeg)) (hv : g j.toNatClampNeg = v) (hd : decode bs pc = .ok (.saload, 1)) (pc' : Nat) (hp : pc + 1 = pc') (k : Go p e below G T (mkF m pc' Ls (.int v :: st))) : Go p e below G T (mkF m pc Ls (.int j :: .ref a :: st)) := by
  subst hp
  subst hv
  obtain ⟨cl, A, S, H⟩ := F
  subst S
  exact Go.by (fun t q => X.saload hx (j := j) (v := .int (g j.toNatClampNeg)) (by rw [eT]; exact A.1) (State.isArrayOf_alike hZ.alike A.2.1) A.2.2 hj (H _ (Nat.lt_of_not_le fun q => hj (Or.inr q))).1 (g := mkF m pc Ls (.int j :: .ref a :: st)) rfl rfl (hb hby hd) t q) k
theorem own_aaload (X : Stand p l e R s m args below meth c T locs cells slots) (hx : p.tables.exec = Jvm.exec) (hby : c.code = bs) (hZ : Z.Warmed39 s.vm) {a : Addr} {j : Int32} {n : Nat} {ty : FieldType} {f : Nat → Value} (v : Value) (eT : T.heap = h) (F : Afn Z h a ty n f) (hty : ty.isReference = true) (hj : ¬ (j < 0 ∨ n ≤ j.toNatClampNeg)) (hv : f j.toNatClampNeg = v) (hd : decode bs pc = .ok (.aaload, 1)) (pc' : Nat) (hp : pc + 1 = pc') (k : Go p e below G T (mkF m pc' Ls (v :: st))) : Go p e below G T (mkF m pc Ls (.int j :: .ref a :: st)) := by
  subst hp
  subst hv
  obtain ⟨cl, A, S, H⟩ := F
  subst S
  exact Go.by (fun t q => X.aaload hx (j := j) (v := f j.toNatClampNeg) (by rw [eT]; exact A.1) (State.isArrayOf_alike hZ.alike A.2.1) hty A.2.2 hj (H _ (Nat.lt_of_not_le fun q => hj (Or.inr q))).1 (g := mkF m pc Ls (.int j :: .ref a :: st)) rfl rfl (hb hby hd) t q) k
theorem own_arraylength (X : Stand p l e R s m args below meth c T locs cells slots) (hx : p.tables.exec = Jvm.exec) (hby : c.code = bs) (hZ : Z.Warmed39 s.vm) {a : Addr} {ty : FieldType} {n : Nat} {f : Nat → Value} (z : Int32) (eT : T.heap = h) (F : Afn Z h a ty n f) (hz : n.toInt32 = z) (hd : decode bs pc = .ok (.arraylength, 1)) (pc' : Nat) (hp : pc + 1 = pc') (k : Go p e below G T (mkF m pc' Ls (.int z :: st))) : Go p e below G T (mkF m pc Ls (.ref a :: st)) := by
  subst hp
  subst hz
  obtain ⟨cl, A, S, H⟩ := F
  subst S
  exact Go.by (fun t q => X.arraylength hx (by rw [eT]; exact A.1) (State.isArrayOf_alike hZ.alike A.2.1) (g := mkF m pc Ls (.ref a :: st)) rfl rfl (hb hby hd) t q) k
theorem own_iastore (X : Stand p l e R s m args below meth c T locs cells slots) (hx : p.tables.exec = Jvm.exec) (hby : c.code = bs) (hZ : Z.Warmed39 s.vm) {a : Addr} {j x : Int32} {n : Nat} {g : Nat → Int32} (eT : T.heap = h) (F : Afi Z h a .int n g) (hj : ¬ (j < 0 ∨ n ≤ j.toNatClampNeg)) (hd : decode bs pc = .ok (.iastore, 1)) (pc' : Nat) (hp : pc + 1 = pc') (k : ∀ T' h', Stand p l e R s m args below meth c T' (locs ++ [⟨a, j.toNatClampNeg⟩]) cells slots → T'.heap = h' → Wr h h' a j.toNatClampNeg (.int x) → Afi Z h' a .int n (updI g j.toNatClampNeg x) → Go p e below G T' (mkF m pc' Ls st)) : Go p e below G T (mkF m pc Ls (.int x :: .int j :: .ref a :: st)) := by
  subst hp
  have F0 := F
  obtain ⟨cl, A, S, H⟩ := F
  obtain ⟨T1, h1, X1, e1, W1, st1⟩ := stI X hx hZ eT A (j := j) (x := x) (by rw [S]; exact hj) (g := mkF m pc Ls (.int x :: .int j :: .ref a :: st)) rfl rfl (hb hby hd)
  exact Go.by (fun t q => st1 t q) (k T1 h1 X1 e1 W1 (F0.set W1 (Nat.lt_of_not_le fun q => hj (Or.inr q)) rfl))
theorem own_bastore (X : Stand p l e R s m args below meth c T locs cells slots) (hx : p.tables.exec = Jvm.exec) (hby : c.code = bs) (hZ : Z.Warmed39 s.vm) {a : Addr} {j x : Int32} {n : Nat} {g : Nat → Int32} (eT : T.heap = h) (F : Afi Z h a .byte n g) (hj : ¬ (j < 0 ∨ n ≤ j.toNatClampNeg)) (hd : decode bs pc = .ok (.bastore, 1)) (pc' : Nat) (hp : pc + 1 = pc') (k : ∀ T' h', Stand p l e R s m args below meth c T' (locs ++ [⟨a, j.toNatClampNeg⟩]) cells slots → T'.heap = h' → Wr h h' a j.toNatClampNeg (.int (nar .byte x)) → Afi Z h' a .byte n (updI g j.toNatClampNeg (nar .byte x)) → Go p e below G T' (mkF m pc' Ls st)) : Go p e below G T (mkF m pc Ls (.int x :: .int j :: .ref a :: st)) := by
  subst hp
  have F0 := F
  obtain ⟨cl, A, S, H⟩ := F
  obtain ⟨T1, h1, X1, e1, W1, st1⟩ := stB X hx hZ eT A (j := j) (x := x) (by rw [S]; exact hj) (g := mkF m pc Ls (.int x :: .int j :: .ref a :: st)) rfl rfl (hb hby hd)
  exact Go.by (fun t q => st1 t q) (k T1 h1 X1 e1 W1 (F0.set W1 (Nat.lt_of_not_le fun q => hj (Or.inr q)) (fits_nar_byte x)))
theorem own_castore (X : Stand p l e R s m args below meth c T locs cells slots) (hx : p.tables.exec = Jvm.exec) (hby : c.code = bs) (hZ : Z.Warmed39 s.vm) {a : Addr} {j x : Int32} {n : Nat} {g : Nat → Int32} (eT : T.heap = h) (F : Afi Z h a .char n g) (hj : ¬ (j < 0 ∨ n ≤ j.toNatClampNeg)) (hd : decode bs pc = .ok (.castore, 1)) (pc' : Nat) (hp : pc + 1 = pc') (k : ∀ T' h', Stand p l e R s m args below meth c T' (locs ++ [⟨a, j.toNatClampNeg⟩]) cells slots → T'.heap = h' → Wr h h' a j.toNatClampNeg (.int (nar .char x)) → Afi Z h' a .char n (updI g j.toNatClampNeg (nar .char x)) → Go p e below G T' (mkF m pc' Ls st)) : Go p e below G T (mkF m pc Ls (.int x :: .int j :: .ref a :: st)) := by
  subst hp
  have F0 := F
  obtain ⟨cl, A, S, H⟩ := F
  obtain ⟨T1, h1, X1, e1, W1, st1⟩ := stC X hx hZ eT A (j := j) (x := x) (by rw [S]; exact hj) (g := mkF m pc Ls (.int x :: .int j :: .ref a :: st)) rfl rfl (hb hby hd)
  exact Go.by (fun t q => st1 t q) (k T1 h1 X1 e1 W1 (F0.set W1 (Nat.lt_of_not_le fun q => hj (Or.inr q)) (fits_nar_char x)))
theorem own_sastore (X : Stand p l e R s m args below meth c T locs cells slots) (hx : p.tables.exec = Jvm.exec) (hby : c.code = bs) (hZ : Z.Warmed39 s.vm) {a : Addr} {j x : Int32} {n : Nat} {g : Nat → Int32} (eT : T.heap = h) (F : Afi Z h a .short n g) (hj : ¬ (j < 0 ∨ n ≤ j.toNatClampNeg)) (hd : decode bs pc = .ok (.sastore, 1)) (pc' : Nat) (hp : pc + 1 = pc') (k : ∀ T' h', Stand p l e R s m args below meth c T' (locs ++ [⟨a, j.toNatClampNeg⟩]) cells slots → T'.heap = h' → Wr h h' a j.toNatClampNeg (.int (nar .short x)) → Afi Z h' a .short n (updI g j.toNatClampNeg (nar .short x)) → Go p e below G T' (mkF m pc' Ls st)) : Go p e below G T (mkF m pc Ls (.int x :: .int j :: .ref a :: st)) := by
  subst hp
  have F0 := F
  obtain ⟨cl, A, S, H⟩ := F
  obtain ⟨T1, h1, X1, e1, W1, st1⟩ := stS X hx hZ eT A (j := j) (x := x) (by rw [S]; exact hj) (g := mkF m pc Ls (.int x :: .int j :: .ref a :: st)) rfl rfl (hb hby hd)
  exact Go.by (fun t q => st1 t q) (k T1 h1 X1 e1 W1 (F0.set W1 (Nat.lt_of_not_le fun q => hj (Or.inr q)) (fits_nar_short x)))
theorem own_aastore (X : Stand p l e R s m args below meth c T locs cells slots) (hx : p.tables.exec = Jvm.exec) (hby : c.code = bs) (hZ : Z.Warmed39 s.vm) {a : Addr} {j : Int32} {v : Value} {n : Nat} {ty : FieldType} {f : Nat → Value} (eT : T.heap = h) (F : Afn Z h a ty n f) (hj : ¬ (j < 0 ∨ n ≤ j.toNatClampNeg)) (hty : ty.isReference = true) (hfv : fits ty v = true) (So : Sto Z h a v) (hd : decode bs pc = .ok (.aastore, 1)) (pc' : Nat) (hp : pc + 1 = pc') (k : ∀ T' h', Stand p l e R s m args below meth c T' (locs ++ [⟨a, j.toNatClampNeg⟩]) cells slots → T'.heap = h' → Wr h h' a j.toNatClampNeg v → Afn Z h' a ty n (upd f j.toNatClampNeg v) → Go p e below G T' (mkF m pc' Ls st)) : Go p e below G T (mkF m pc Ls (v :: .int j :: .ref a :: st)) := by
  subst hp
  have F0 := F
  obtain ⟨cl, A, S, H⟩ := F
  obtain ⟨T1, h1, X1, e1, W1, st1⟩ := stR X hx hZ eT A (j := j) (by rw [S]; exact hj) hty So (g := mkF m pc Ls (v :: .int j :: .ref a :: st)) rfl rfl (hb hby hd)
  exact Go.by (fun t q => st1 t q) (k T1 h1 X1 e1 W1 (F0.set W1 (Nat.lt_of_not_le fun q => hj (Or.inr q)) hfv))
theorem own_newarray (X : Stand p l e R s m args below meth c T locs cells slots) (hx : p.tables.exec = Jvm.exec) (hby : c.code = bs) (hZ : Z.Warmed39 s.vm) {aty : ArrayType} {z : Int32} {n cap : Nat} {ad : String} (w : (Jvm.Cond.arrayClass (newarray.typeOf aty)).before a0 Z = true) (eT : T.heap = h) (hd : decode bs pc = .ok (.newarray aty, 2)) (hz : ¬ z < 0) (hn : z.toNatClampNeg = n) (hcap : n ≤ cap) (hb8 : cap * 8 ≤ 536870912) (hcl : cells + 1 ≤ R.cells) (hsl : slots + cap ≤ R.slots) (had : "[" ++ (newarray.typeOf aty).toString = ad) (pc' : Nat) (hp : pc + 2 = pc') (k : ∀ T' h' (b : Addr), b = h.size → Stand p l e R s m args below meth c T' locs (cells + 1) (slots + cap) → T'.heap = h' → Ext h h' → Afn Z h' b (newarray.typeOf aty) n (fun _ => defaultValue (newarray.typeOf aty)) → Exa Z h' b ad → Go p e below G T' (mkF m pc' Ls (.ref b :: st))) : Go p e below G T (mkF m pc Ls (.int z :: st)) := by
  subst hp
  obtain ⟨T1, h1, cA, X1, e1, E1, A1, Ex1, st1⟩ := newPE X hx hZ w eT (g := mkF m pc Ls (.int z :: st)) rfl (hb hby hd) rfl hz (cap := cap) (by rw [hn]; exact hcap) hb8 hcl hsl had
  exact Go.by (fun t q => st1 t q) (k T1 h1 _ rfl X1 e1 E1 (Afn.new A1 hn) Ex1)
theorem own_anewarray (X : Stand p l e R s m args below meth c T locs cells slots) (hx : p.tables.exec = Jvm.exec) (hby : c.code = bs) (hZ : Z.Warmed39 s.vm) {own C : String} {idx : Nat} {z : Int32} {n cap : Nat} {ad : String} (hown : s.vm.findClass own = some m.cls) (w1 : (Jvm.Cond.classLink own idx C).before a0 Z = true) (w2 : (Jvm.Cond.arrayOver (.object C)).before a0 Z = true) (eT : T.heap = h) (hd : decode bs pc = .ok (.anewarray idx, 3)) (hz : ¬ z < 0) (hn : z.toNatClampNeg = n) (hcap : n ≤ cap) (hb8 : cap * 8 ≤ 536870912) (hcl : cells + 1 ≤ R.cells) (hsl : slots + cap ≤ R.slots) (had : "[" ++ (FieldType.object C).toString = ad) (pc' : Nat) (hp : pc + 3 = pc') (k : ∀ T' h' (b : Addr) cA, b = h.size → Stand p l e R s m args below meth c T' locs (cells + 1) (slots + cap) → T'.heap = h' → Ext h h' → Afn Z h' b (.object C) n (fun _ => .null) → Exa Z h' b ad → Arr Z h' b (newA cA (.object C) z) (.object C) → Ovr Z cA C → Go p e below G T' (mkF m pc' Ls (.ref b :: st))) : Go p e below G T (mkF m pc Ls (.int z :: st)) := by
  subst hp
  obtain ⟨T1, h1, cA, X1, e1, E1, A1, Ex1, O1, st1⟩ := newRE X hx hZ hown w1 w2 eT (g := mkF m pc Ls (.int z :: st)) rfl (hb hby hd) rfl hz (cap := cap) (by rw [hn]; exact hcap) hb8 hcl hsl had
  exact Go.by (fun t q => st1 t q) (k T1 h1 _ cA rfl X1 e1 E1 (Afn.new A1 hn) Ex1 A1 O1)
theorem own_lremV (x y : Int64) : 0 ≤ x.toInt → 0 < y.toInt → 0 ≤ (x % y).toInt ∧ (x % y).toInt < y.toInt := by
  intro h1 h2
  rw [Int64.toInt_mod, (tr x.toInt y.toInt).1 h1]
  exact ⟨Int.emod_nonneg _ (by omega), Int.emod_lt_of_pos _ h2⟩
theorem own_NSroot {O K : String} {n : Nat} (w : (Jvm.Cond.noSuperclass O).before a0 Z = true) (wk : (Jvm.Cond.instantiable K n).before a0 Z = true) (hn : O ≠ K) : NS Z O K := by
  obtain ⟨c, k, h1, h2, h3, -, -⟩ := Cond.noSuperclass_spec w
  obtain ⟨t, k2, g1, -⟩ := Cond.instantiable_spec wk
  have ne := ids_ne h1 g1 hn
  refine ⟨c, t, h1, g1, fun fuel => ?_⟩
  cases fuel with
  | zero => rfl
  | succ f => simp [Vm.isSubclassAux, ne, h2, h3]
theorem own_NSno {C S K : String} {n : Nat} (w : (Jvm.Cond.superclass C S).before a0 Z = true) (wk : (Jvm.Cond.instantiable K n).before a0 Z = true) (nn : NS Z C K) (hn : C ≠ K) : ∃ c t, Z.vm.findClass C = some c ∧ Z.vm.findClass K = some t ∧ Z.vm.assignable c t = false := by
  obtain ⟨c, t, h0, g0, n3⟩ := nn
  obtain ⟨p, k, kp, h1, h2, h3, h4, h5, -, h7⟩ := Cond.superclass_spec h0 w
  obtain ⟨t', k', g1, g2, g5, g6, -, -⟩ := Cond.instantiable_spec wk
  cases g0.symm.trans g1
  have ne := ids_ne h0 g0 hn
  have g7 : k'.isInterface = false := (Bool.or_eq_false_iff.mp g6).1
  refine ⟨c, t, h0, g0, ?_⟩
  show Z.vm.assignableAux (255 + 1) c t = false
  simp [Vm.assignableAux, ne, h2, g2, h5, g5, g7, Vm.isSubclass, n3]
theorem own_ext0 {h0 : Heap} (K : Keep h0 h []) : Ext h0 h := ⟨K.1, fun a c q => K.2.1 a c q nin0⟩
/-- an array of references over the class C takes objects of C -/
def Orr (Z : State) (h : Heap) (b : Addr) (C : String) : Prop := ∃ (c : Cell) (cA : ClassId), Arr Z h b c (.object C) ∧ c.cls = cA ∧ Ovr Z cA C
theorem Orr.lt {b : Addr} {C : String} (F : Orr Z h b C) : b < h.size := by obtain ⟨c, cA, A, -⟩ := F; exact A.lt
theorem Orr.ext {h' : Heap} {b : Addr} {C : String} (F : Orr Z h b C) (E : Ext h h') : Orr Z h' b C := by obtain ⟨c, cA, A, r⟩ := F; exact ⟨c, cA, A.ext E, r⟩
theorem Orr.wr {h' : Heap} {a b : Addr} {C : String} {sl : Nat} {v : Value} (F : Orr Z h b C) (W : Wr h h' a sl v) : Orr Z h' b C := by
  obtain ⟨c, cA, A, q, O⟩ := F
  by_cases e : b = a
  · subst e; exact ⟨_, cA, A.same W, q, O⟩
  · exact ⟨c, cA, A.other W e, q, O⟩
theorem Orr.sto {b y : Addr} {C : String} (F : Orr Z h b C) (I : Ins Z h y C true) : Sto Z h b (.ref y) := by
  obtain ⟨c, cA, A, q, O⟩ := F
  exact Sto.ofV A q O I
theorem own_clone (X : Stand p l e R s m args below meth c T locs cells slots) (hx : p.tables.exec = Jvm.exec) (hby : c.code = bs) (hZ : Z.Warmed39 s.vm) {own ad : String} {idx : Nat} {a : Addr} {ty : FieldType} {n cap : Nat} {g : Nat → Int32} (hown : s.vm.findClass own = some m.cls) (w1 : (Jvm.Cond.methodLink own idx ⟨ad, "clone", "()Ljava/lang/Object;"⟩).before a0 Z = true) (w2 : (Jvm.Cond.sameMethod ad "java/lang/Object" "clone" "()Ljava/lang/Object;").before a0 Z = true) (w3 : (Jvm.Cond.native ⟨"java/lang/Object", "clone", "()Ljava/lang/Object;"⟩).before a0 Z = true)
    (w4 : (Jvm.Cond.instanceMethod ⟨"java/lang/Object", "clone", "()Ljava/lang/Object;"⟩).before a0 Z = true) (w5 : (Jvm.Cond.selects ad ⟨ad, "clone", "()Ljava/lang/Object;"⟩ ⟨"java/lang/Object", "clone", "()Ljava/lang/Object;"⟩).before a0 Z = true) (w6 : (Jvm.Cond.castable ad "java/lang/Cloneable").before a0 Z = true)
    (eT : T.heap = h) (F : Afi Z h a ty n g) (E : Exa Z h a ad) (hml : Ls.size = c.maxLocals) (hd : decode bs pc = .ok (.invokevirtual idx, 3)) (hf : 1 ≤ R.frames) (W : Nat) (hW : (st.map fun v => v.category).sum = W) (hl : W + 14 ≤ R.locals) (hcap : n ≤ cap) (hcl : cells + 1 ≤ R.cells) (hsl : slots + cap ≤ R.slots) (pc' : Nat) (hp : pc + 3 = pc')
    (k : ∀ T' h' (b : Addr), b = h.size → Stand p l e R s m args below meth c T' locs (cells + 1) (slots + cap) → T'.heap = h' → Ext h h' → Afi Z h' b ty n g → Exa Z h' b ad → Go p e below G T' (mkF m pc' Ls (.ref b :: st))) : Go p e below G T (mkF m pc Ls (.ref a :: st)) := by
  subst hp
  obtain ⟨cl, A, S, H⟩ := F
  have FC : FitC Z cl := fitC_of A fun i hi v hv => by rw [(H i (S ▸ hi)).1] at hv; cases hv; exact (H i (S ▸ hi)).2
  obtain ⟨T1, h1, X1, e1, E1, A1, Ex1, st1⟩ := cloneA X hx hZ hown w1 w2 w3 w4 w5 w6 eT A E FC (g := mkF m pc Ls (.ref a :: st)) rfl hml rfl (hb hby hd) hf (W := W) (by show 2 * 0 + _ ≤ _; omega) hl (cap := cap) (by rw [S]; exact hcap) hcl hsl
  exact Go.by (fun t q => st1 t q) (k T1 h1 _ rfl X1 e1 E1 ⟨_, A1, S, H⟩ Ex1)
theorem own_fld_start {t : Term} {C n d : String} {k : Int32} {a : Addr} (ev : t.eval args Z none [] Z = some (.ref a)) (hh : (Jvm.Cond.eq (.field t C n d) (.int k)).value args Z none Z [] = some true) : Fld Z Z.heap a C n d (.int k) := by
  obtain ⟨x, y, h1, h2, h3, h4⟩ := cmp_v (Or.inl hh)
  have h2' : y = .int k := (Option.some.inj h2).symm
  subst h2'
  obtain ⟨z, rfl⟩ := h4
  have q : z = k := by
    simp only [Cond.value, h1, h2] at hh
    exact of_decide_eq_true (Option.some.inj hh)
  subst q
  rw [fld_at ev] at h1
  exact Fld.start h1
end OwnGo

theorem d1_0 : decode method_2_code 0 = .ok (.iload_n 0, 1) := by decide +kernel
theorem d1_1 : decode method_2_code 1 = .ok (.ifCond .ne 7, 3) := by decide +kernel
theorem d1_4 : decode method_2_code 4 = .ok (.getstatic 7, 3) := by decide +kernel
theorem d1_7 : decode method_2_code 7 = .ok (.areturn, 1) := by decide +kernel
theorem pn_1 : plainName "com/example/intrcom/intrcom/CommandIsAnswerPinLaw" = true := by first | (simp [plainName, overriddenIn]; done) | decide +kernel
theorem d1_8 : decode method_2_code 8 = .ok (.iload_n 0, 1) := by decide +kernel
theorem d1_9 : decode method_2_code 9 = .ok (.iconst 1, 1) := by decide +kernel
theorem d1_10 : decode method_2_code 10 = .ok (.if_icmp .ne 7, 3) := by decide +kernel
theorem d1_13 : decode method_2_code 13 = .ok (.getstatic 13, 3) := by decide +kernel
theorem d1_16 : decode method_2_code 16 = .ok (.areturn, 1) := by decide +kernel
theorem d1_17 : decode method_2_code 17 = .ok (.iload_n 0, 1) := by decide +kernel
theorem d1_18 : decode method_2_code 18 = .ok (.iconst 2, 1) := by decide +kernel
theorem d1_19 : decode method_2_code 19 = .ok (.if_icmp .ne 7, 3) := by decide +kernel
theorem d1_22 : decode method_2_code 22 = .ok (.getstatic 16, 3) := by decide +kernel
theorem d1_25 : decode method_2_code 25 = .ok (.areturn, 1) := by decide +kernel
theorem d1_26 : decode method_2_code 26 = .ok (.iload_n 0, 1) := by decide +kernel
theorem d1_27 : decode method_2_code 27 = .ok (.iconst 3, 1) := by decide +kernel
theorem d1_28 : decode method_2_code 28 = .ok (.if_icmp .ne 7, 3) := by decide +kernel
theorem d1_31 : decode method_2_code 31 = .ok (.getstatic 19, 3) := by decide +kernel
theorem d1_34 : decode method_2_code 34 = .ok (.areturn, 1) := by decide +kernel
theorem d1_35 : decode method_2_code 35 = .ok (.iload_n 0, 1) := by decide +kernel
theorem d1_36 : decode method_2_code 36 = .ok (.iconst 4, 1) := by decide +kernel
theorem d1_37 : decode method_2_code 37 = .ok (.if_icmp .ne 7, 3) := by decide +kernel
theorem d1_40 : decode method_2_code 40 = .ok (.getstatic 22, 3) := by decide +kernel
theorem d1_43 : decode method_2_code 43 = .ok (.areturn, 1) := by decide +kernel
theorem d1_44 : decode method_2_code 44 = .ok (.iload_n 0, 1) := by decide +kernel
theorem d1_45 : decode method_2_code 45 = .ok (.iconst 5, 1) := by decide +kernel
theorem d1_46 : decode method_2_code 46 = .ok (.if_icmp .ne 7, 3) := by decide +kernel
theorem d1_49 : decode method_2_code 49 = .ok (.getstatic 25, 3) := by decide +kernel
theorem d1_52 : decode method_2_code 52 = .ok (.areturn, 1) := by decide +kernel
theorem d1_53 : decode method_2_code 53 = .ok (.iload_n 0, 1) := by decide +kernel
theorem d1_54 : decode method_2_code 54 = .ok (.bipush 6, 2) := by decide +kernel
theorem d1_56 : decode method_2_code 56 = .ok (.if_icmp .ne 7, 3) := by decide +kernel
theorem d1_59 : decode method_2_code 59 = .ok (.getstatic 28, 3) := by decide +kernel
theorem d1_62 : decode method_2_code 62 = .ok (.areturn, 1) := by decide +kernel
theorem d1_63 : decode method_2_code 63 = .ok (.iload_n 0, 1) := by decide +kernel
theorem d1_64 : decode method_2_code 64 = .ok (.bipush 7, 2) := by decide +kernel
theorem d1_66 : decode method_2_code 66 = .ok (.if_icmp .ne 7, 3) := by decide +kernel
theorem d1_69 : decode method_2_code 69 = .ok (.getstatic 31, 3) := by decide +kernel
theorem d1_72 : decode method_2_code 72 = .ok (.areturn, 1) := by decide +kernel
theorem d1_73 : decode method_2_code 73 = .ok (.iload_n 0, 1) := by decide +kernel
theorem d1_74 : decode method_2_code 74 = .ok (.bipush 8, 2) := by decide +kernel
theorem d1_76 : decode method_2_code 76 = .ok (.if_icmp .ne 7, 3) := by decide +kernel
theorem d1_79 : decode method_2_code 79 = .ok (.getstatic 34, 3) := by decide +kernel
theorem d1_82 : decode method_2_code 82 = .ok (.areturn, 1) := by decide +kernel
theorem d1_83 : decode method_2_code 83 = .ok (.iload_n 0, 1) := by decide +kernel
theorem d1_84 : decode method_2_code 84 = .ok (.bipush 9, 2) := by decide +kernel
theorem d1_86 : decode method_2_code 86 = .ok (.if_icmp .ne 7, 3) := by decide +kernel
theorem d1_89 : decode method_2_code 89 = .ok (.getstatic 37, 3) := by decide +kernel
theorem d1_92 : decode method_2_code 92 = .ok (.areturn, 1) := by decide +kernel
theorem d1_93 : decode method_2_code 93 = .ok (.iload_n 0, 1) := by decide +kernel
theorem d1_94 : decode method_2_code 94 = .ok (.bipush 10, 2) := by decide +kernel
theorem d1_96 : decode method_2_code 96 = .ok (.if_icmp .ne 7, 3) := by decide +kernel
theorem d1_99 : decode method_2_code 99 = .ok (.getstatic 40, 3) := by decide +kernel
theorem d1_102 : decode method_2_code 102 = .ok (.areturn, 1) := by decide +kernel
theorem d1_103 : decode method_2_code 103 = .ok (.iload_n 0, 1) := by decide +kernel
theorem d1_104 : decode method_2_code 104 = .ok (.bipush 11, 2) := by decide +kernel
theorem d1_106 : decode method_2_code 106 = .ok (.if_icmp .ne 7, 3) := by decide +kernel
theorem d1_109 : decode method_2_code 109 = .ok (.getstatic 43, 3) := by decide +kernel
theorem d1_112 : decode method_2_code 112 = .ok (.areturn, 1) := by decide +kernel
theorem d1_113 : decode method_2_code 113 = .ok (.iload_n 0, 1) := by decide +kernel
theorem d1_114 : decode method_2_code 114 = .ok (.bipush 12, 2) := by decide +kernel
theorem d1_116 : decode method_2_code 116 = .ok (.if_icmp .ne 7, 3) := by decide +kernel
theorem d1_119 : decode method_2_code 119 = .ok (.getstatic 46, 3) := by decide +kernel
theorem d1_122 : decode method_2_code 122 = .ok (.areturn, 1) := by decide +kernel
theorem d1_123 : decode method_2_code 123 = .ok (.iload_n 0, 1) := by decide +kernel
theorem d1_124 : decode method_2_code 124 = .ok (.bipush 13, 2) := by decide +kernel
theorem d1_126 : decode method_2_code 126 = .ok (.if_icmp .ne 7, 3) := by decide +kernel
theorem d1_129 : decode method_2_code 129 = .ok (.getstatic 49, 3) := by decide +kernel
theorem d1_132 : decode method_2_code 132 = .ok (.areturn, 1) := by decide +kernel
theorem d1_133 : decode method_2_code 133 = .ok (.iload_n 0, 1) := by decide +kernel
theorem d1_134 : decode method_2_code 134 = .ok (.bipush 14, 2) := by decide +kernel
theorem d1_136 : decode method_2_code 136 = .ok (.if_icmp .ne 7, 3) := by decide +kernel
theorem d1_139 : decode method_2_code 139 = .ok (.getstatic 52, 3) := by decide +kernel
theorem d1_142 : decode method_2_code 142 = .ok (.areturn, 1) := by decide +kernel
theorem d1_143 : decode method_2_code 143 = .ok (.iload_n 0, 1) := by decide +kernel
theorem d1_144 : decode method_2_code 144 = .ok (.bipush 15, 2) := by decide +kernel
theorem d1_146 : decode method_2_code 146 = .ok (.if_icmp .ne 7, 3) := by decide +kernel
theorem d1_149 : decode method_2_code 149 = .ok (.getstatic 55, 3) := by decide +kernel
theorem d1_152 : decode method_2_code 152 = .ok (.areturn, 1) := by decide +kernel
theorem d1_153 : decode method_2_code 153 = .ok (.iload_n 0, 1) := by decide +kernel
theorem d1_154 : decode method_2_code 154 = .ok (.bipush 16, 2) := by decide +kernel
theorem d1_156 : decode method_2_code 156 = .ok (.if_icmp .ne 7, 3) := by decide +kernel
theorem d1_159 : decode method_2_code 159 = .ok (.getstatic 58, 3) := by decide +kernel
theorem d1_162 : decode method_2_code 162 = .ok (.areturn, 1) := by decide +kernel
theorem d1_163 : decode method_2_code 163 = .ok (.iload_n 0, 1) := by decide +kernel
theorem d1_164 : decode method_2_code 164 = .ok (.bipush 17, 2) := by decide +kernel
theorem d1_166 : decode method_2_code 166 = .ok (.if_icmp .ne 7, 3) := by decide +kernel
theorem d1_169 : decode method_2_code 169 = .ok (.getstatic 61, 3) := by decide +kernel
theorem d1_172 : decode method_2_code 172 = .ok (.areturn, 1) := by decide +kernel
theorem d1_173 : decode method_2_code 173 = .ok (.getstatic 64, 3) := by decide +kernel
theorem d1_176 : decode method_2_code 176 = .ok (.areturn, 1) := by decide +kernel
theorem d2_0 : decode prog_4_method_4_code 0 = .ok (.aload_n 0, 1) := by decide +kernel
theorem d2_1 : decode prog_4_method_4_code 1 = .ok (.getfield 80, 3) := by decide +kernel
theorem d2_4 : decode prog_4_method_4_code 4 = .ok (.ireturn, 1) := by decide +kernel
theorem pn_2 : plainName "com/example/intrcom/intrcom/Command" = true := by first | (simp [plainName, overriddenIn]; done) | decide +kernel
theorem d3_0 : decode prog_4_method_7_code 0 = .ok (.aload_n 0, 1) := by decide +kernel
theorem d3_1 : decode prog_4_method_7_code 1 = .ok (.getstatic 10, 3) := by decide +kernel
theorem d3_4 : decode prog_4_method_7_code 4 = .ok (.if_acmp .eq 10, 3) := by decide +kernel
theorem d3_7 : decode prog_4_method_7_code 7 = .ok (.aload_n 0, 1) := by decide +kernel
theorem d3_8 : decode prog_4_method_7_code 8 = .ok (.getstatic 19, 3) := by decide +kernel
theorem d3_11 : decode prog_4_method_7_code 11 = .ok (.if_acmp .ne 7, 3) := by decide +kernel
theorem d3_14 : decode prog_4_method_7_code 14 = .ok (.iconst 1, 1) := by decide +kernel
theorem d3_15 : decode prog_4_method_7_code 15 = .ok (.goto 4, 3) := by decide +kernel
theorem d3_18 : decode prog_4_method_7_code 18 = .ok (.iconst 0, 1) := by decide +kernel
theorem d3_19 : decode prog_4_method_7_code 19 = .ok (.ireturn, 1) := by decide +kernel
theorem pd_2 : parseMethodDescriptor "(I)Lcom/example/intrcom/intrcom/Command;" = some ⟨[.int], some (.object "com/example/intrcom/intrcom/Command")⟩ := by decide +kernel
theorem pd_0 : parseMethodDescriptor "()I" = some ⟨[], some .int⟩ := by decide +kernel
theorem pd_1 : parseMethodDescriptor "()Z" = some ⟨[], some .boolean⟩ := by decide +kernel
theorem ef_1_0  (m : MethodId) : entryFrame m #[(.int (0 : Int32))] 1 = mkF m 0 #[.val (.int (0 : Int32))] [] := by first | (simp [entryFrame, mkF, argsToLocals, Value.category]; done) | rfl
def Q1_0 (Z : State) (u_READY : Addr) (h0 : Heap) (n0 : Nat) (v : Option Value) (h : Heap) (L : List Loc) : Prop := v = some (.ref u_READY) ∧ Fr n0 L ∧ h = h0
set_option maxRecDepth 65536 in
set_option maxHeartbeats 40000000 in
theorem rm1_0 (l : Launch) (Z : State) (a0 : Array Value) (hw : ∀ d ∈ tables_1, d.before a0 Z = true) (u_READY : Addr) (h0 : Heap) (n0 : Nat) (Zs : n0 ≤ h0.size) (S_READY : Sta Z h0 "com/example/intrcom/intrcom/Command" "READY" "Lcom/example/intrcom/intrcom/Command;" (.ref u_READY)) :
    Met1 l Z (⟨"com/example/intrcom/intrcom/CommandIsAnswerPinLaw", "pick", "(I)Lcom/example/intrcom/intrcom/Command;"⟩ : MethodName) method_2_code 1 (some (.object "com/example/intrcom/intrcom/Command")) ({ frames := 0, cells := 0, slots := 0, locals := 0 } : Room) #[(.int (0 : Int32))] h0 (Q1_0 Z u_READY h0 n0) := by
  refine own_met_of (plainFor_of_name pn_1) (ef_1_0 ) ?_
  intro p e s m below meth c s₁ X hx hby hml hZ hown hnm hret hlk eT
  have hown : s.vm.findClass "com/example/intrcom/intrcom/CommandIsAnswerPinLaw" = some m.cls := hown
  have N := Fr.nil n0
  refine own_iloadN X hx hby (0 : Int32) d1_0 rfl 1 rfl ?_
  have c1 : (0 : Int32) = (0 : Int32) := by decide
  refine own_if_ne X hx hby d1_1 8 4 (by decide) rfl (fun q => absurd c1 q) (fun _ => ?_)
  refine own_getS X hx hby hZ hown (host := "") (Or.inl (hw _ (List.mem_of_getElem? (i := 5) rfl))) Via.refl eT S_READY d1_4 7 rfl ?_
  intro T4 X eT
  refine own_retA X hx hby hret hlk rfl rfl rfl d1_7 (by decide) (by decide) ?_
  rw [eT]
  exact ⟨rfl, N, rfl⟩
theorem ef_1_1  (m : MethodId) : entryFrame m #[(.int (1 : Int32))] 1 = mkF m 0 #[.val (.int (1 : Int32))] [] := by first | (simp [entryFrame, mkF, argsToLocals, Value.category]; done) | rfl
def Q1_1 (Z : State) (u_REQUEST : Addr) (h0 : Heap) (n0 : Nat) (v : Option Value) (h : Heap) (L : List Loc) : Prop := v = some (.ref u_REQUEST) ∧ Fr n0 L ∧ h = h0
set_option maxRecDepth 65536 in
set_option maxHeartbeats 40000000 in
theorem rm1_1 (l : Launch) (Z : State) (a0 : Array Value) (hw : ∀ d ∈ tables_1, d.before a0 Z = true) (u_REQUEST : Addr) (h0 : Heap) (n0 : Nat) (Zs : n0 ≤ h0.size) (S_REQUEST : Sta Z h0 "com/example/intrcom/intrcom/Command" "REQUEST" "Lcom/example/intrcom/intrcom/Command;" (.ref u_REQUEST)) :
    Met1 l Z (⟨"com/example/intrcom/intrcom/CommandIsAnswerPinLaw", "pick", "(I)Lcom/example/intrcom/intrcom/Command;"⟩ : MethodName) method_2_code 1 (some (.object "com/example/intrcom/intrcom/Command")) ({ frames := 0, cells := 0, slots := 0, locals := 0 } : Room) #[(.int (1 : Int32))] h0 (Q1_1 Z u_REQUEST h0 n0) := by
  refine own_met_of (plainFor_of_name pn_1) (ef_1_1 ) ?_
  intro p e s m below meth c s₁ X hx hby hml hZ hown hnm hret hlk eT
  have hown : s.vm.findClass "com/example/intrcom/intrcom/CommandIsAnswerPinLaw" = some m.cls := hown
  have N := Fr.nil n0
  refine own_iloadN X hx hby (1 : Int32) d1_0 rfl 1 rfl ?_
  have c1 : ¬ (1 : Int32) = (0 : Int32) := by decide
  refine own_if_ne X hx hby d1_1 8 4 (by decide) rfl (fun _ => ?_) (fun q => absurd q c1)
  refine own_iloadN X hx hby (1 : Int32) d1_8 rfl 9 rfl ?_
  refine own_iconst X hx hby (1 : Int32) d1_9 rfl 10 rfl ?_
  have c10 : (1 : Int32) = (1 : Int32) := by decide
  refine own_icmp_ne X hx hby d1_10 17 13 (by decide) rfl (fun q => absurd c10 q) (fun _ => ?_)
  refine own_getS X hx hby hZ hown (host := "") (Or.inl (hw _ (List.mem_of_getElem? (i := 40) rfl))) Via.refl eT S_REQUEST d1_13 16 rfl ?_
  intro T13 X eT
  refine own_retA X hx hby hret hlk rfl rfl rfl d1_16 (by decide) (by decide) ?_
  rw [eT]
  exact ⟨rfl, N, rfl⟩
theorem ef_1_2  (m : MethodId) : entryFrame m #[(.int (2 : Int32))] 1 = mkF m 0 #[.val (.int (2 : Int32))] [] := by first | (simp [entryFrame, mkF, argsToLocals, Value.category]; done) | rfl
def Q1_2 (Z : State) (u_REPLY : Addr) (h0 : Heap) (n0 : Nat) (v : Option Value) (h : Heap) (L : List Loc) : Prop := v = some (.ref u_REPLY) ∧ Fr n0 L ∧ h = h0
set_option maxRecDepth 65536 in
set_option maxHeartbeats 40000000 in
theorem rm1_2 (l : Launch) (Z : State) (a0 : Array Value) (hw : ∀ d ∈ tables_1, d.before a0 Z = true) (u_REPLY : Addr) (h0 : Heap) (n0 : Nat) (Zs : n0 ≤ h0.size) (S_REPLY : Sta Z h0 "com/example/intrcom/intrcom/Command" "REPLY" "Lcom/example/intrcom/intrcom/Command;" (.ref u_REPLY)) :
    Met1 l Z (⟨"com/example/intrcom/intrcom/CommandIsAnswerPinLaw", "pick", "(I)Lcom/example/intrcom/intrcom/Command;"⟩ : MethodName) method_2_code 1 (some (.object "com/example/intrcom/intrcom/Command")) ({ frames := 0, cells := 0, slots := 0, locals := 0 } : Room) #[(.int (2 : Int32))] h0 (Q1_2 Z u_REPLY h0 n0) := by
  refine own_met_of (plainFor_of_name pn_1) (ef_1_2 ) ?_
  intro p e s m below meth c s₁ X hx hby hml hZ hown hnm hret hlk eT
  have hown : s.vm.findClass "com/example/intrcom/intrcom/CommandIsAnswerPinLaw" = some m.cls := hown
  have N := Fr.nil n0
  refine own_iloadN X hx hby (2 : Int32) d1_0 rfl 1 rfl ?_
  have c1 : ¬ (2 : Int32) = (0 : Int32) := by decide
  refine own_if_ne X hx hby d1_1 8 4 (by decide) rfl (fun _ => ?_) (fun q => absurd q c1)
  refine own_iloadN X hx hby (2 : Int32) d1_8 rfl 9 rfl ?_
  refine own_iconst X hx hby (1 : Int32) d1_9 rfl 10 rfl ?_
  have c10 : ¬ (2 : Int32) = (1 : Int32) := by decide
  refine own_icmp_ne X hx hby d1_10 17 13 (by decide) rfl (fun _ => ?_) (fun q => absurd q c10)
  refine own_iloadN X hx hby (2 : Int32) d1_17 rfl 18 rfl ?_
  refine own_iconst X hx hby (2 : Int32) d1_18 rfl 19 rfl ?_
  have c19 : (2 : Int32) = (2 : Int32) := by decide
  refine own_icmp_ne X hx hby d1_19 26 22 (by decide) rfl (fun q => absurd c19 q) (fun _ => ?_)
  refine own_getS X hx hby hZ hown (host := "") (Or.inl (hw _ (List.mem_of_getElem? (i := 33) rfl))) Via.refl eT S_REPLY d1_22 25 rfl ?_
  intro T22 X eT
  refine own_retA X hx hby hret hlk rfl rfl rfl d1_25 (by decide) (by decide) ?_
  rw [eT]
  exact ⟨rfl, N, rfl⟩
theorem ef_1_3  (m : MethodId) : entryFrame m #[(.int (3 : Int32))] 1 = mkF m 0 #[.val (.int (3 : Int32))] [] := by first | (simp [entryFrame, mkF, argsToLocals, Value.category]; done) | rfl
def Q1_3 (Z : State) (u_HEARTBEAT : Addr) (h0 : Heap) (n0 : Nat) (v : Option Value) (h : Heap) (L : List Loc) : Prop := v = some (.ref u_HEARTBEAT) ∧ Fr n0 L ∧ h = h0
set_option maxRecDepth 65536 in
set_option maxHeartbeats 40000000 in
theorem rm1_3 (l : Launch) (Z : State) (a0 : Array Value) (hw : ∀ d ∈ tables_1, d.before a0 Z = true) (u_HEARTBEAT : Addr) (h0 : Heap) (n0 : Nat) (Zs : n0 ≤ h0.size) (S_HEARTBEAT : Sta Z h0 "com/example/intrcom/intrcom/Command" "HEARTBEAT" "Lcom/example/intrcom/intrcom/Command;" (.ref u_HEARTBEAT)) :
    Met1 l Z (⟨"com/example/intrcom/intrcom/CommandIsAnswerPinLaw", "pick", "(I)Lcom/example/intrcom/intrcom/Command;"⟩ : MethodName) method_2_code 1 (some (.object "com/example/intrcom/intrcom/Command")) ({ frames := 0, cells := 0, slots := 0, locals := 0 } : Room) #[(.int (3 : Int32))] h0 (Q1_3 Z u_HEARTBEAT h0 n0) := by
  refine own_met_of (plainFor_of_name pn_1) (ef_1_3 ) ?_
  intro p e s m below meth c s₁ X hx hby hml hZ hown hnm hret hlk eT
  have hown : s.vm.findClass "com/example/intrcom/intrcom/CommandIsAnswerPinLaw" = some m.cls := hown
  have N := Fr.nil n0
  refine own_iloadN X hx hby (3 : Int32) d1_0 rfl 1 rfl ?_
  have c1 : ¬ (3 : Int32) = (0 : Int32) := by decide
  refine own_if_ne X hx hby d1_1 8 4 (by decide) rfl (fun _ => ?_) (fun q => absurd q c1)
  refine own_iloadN X hx hby (3 : Int32) d1_8 rfl 9 rfl ?_
  refine own_iconst X hx hby (1 : Int32) d1_9 rfl 10 rfl ?_
  have c10 : ¬ (3 : Int32) = (1 : Int32) := by decide
  refine own_icmp_ne X hx hby d1_10 17 13 (by decide) rfl (fun _ => ?_) (fun q => absurd q c10)
  refine own_iloadN X hx hby (3 : Int32) d1_17 rfl 18 rfl ?_
  refine own_iconst X hx hby (2 : Int32) d1_18 rfl 19 rfl ?_
  have c19 : ¬ (3 : Int32) = (2 : Int32) := by decide
  refine own_icmp_ne X hx hby d1_19 26 22 (by decide) rfl (fun _ => ?_) (fun q => absurd q c19)
  refine own_iloadN X hx hby (3 : Int32) d1_26 rfl 27 rfl ?_
  refine own_iconst X hx hby (3 : Int32) d1_27 rfl 28 rfl ?_
  have c28 : (3 : Int32) = (3 : Int32) := by decide
  refine own_icmp_ne X hx hby d1_28 35 31 (by decide) rfl (fun q => absurd c28 q) (fun _ => ?_)
  refine own_getS X hx hby hZ hown (host := "") (Or.inl (hw _ (List.mem_of_getElem? (i := 24) rfl))) Via.refl eT S_HEARTBEAT d1_31 34 rfl ?_
  intro T31 X eT
  refine own_retA X hx hby hret hlk rfl rfl rfl d1_34 (by decide) (by decide) ?_
  rw [eT]
  exact ⟨rfl, N, rfl⟩
theorem ef_1_4  (m : MethodId) : entryFrame m #[(.int (4 : Int32))] 1 = mkF m 0 #[.val (.int (4 : Int32))] [] := by first | (simp [entryFrame, mkF, argsToLocals, Value.category]; done) | rfl
def Q1_4 (Z : State) (u_DISCONNECT : Addr) (h0 : Heap) (n0 : Nat) (v : Option Value) (h : Heap) (L : List Loc) : Prop := v = some (.ref u_DISCONNECT) ∧ Fr n0 L ∧ h = h0
set_option maxRecDepth 65536 in
set_option maxHeartbeats 40000000 in
theorem rm1_4 (l : Launch) (Z : State) (a0 : Array Value) (hw : ∀ d ∈ tables_1, d.before a0 Z = true) (u_DISCONNECT : Addr) (h0 : Heap) (n0 : Nat) (Zs : n0 ≤ h0.size) (S_DISCONNECT : Sta Z h0 "com/example/intrcom/intrcom/Command" "DISCONNECT" "Lcom/example/intrcom/intrcom/Command;" (.ref u_DISCONNECT)) :
    Met1 l Z (⟨"com/example/intrcom/intrcom/CommandIsAnswerPinLaw", "pick", "(I)Lcom/example/intrcom/intrcom/Command;"⟩ : MethodName) method_2_code 1 (some (.object "com/example/intrcom/intrcom/Command")) ({ frames := 0, cells := 0, slots := 0, locals := 0 } : Room) #[(.int (4 : Int32))] h0 (Q1_4 Z u_DISCONNECT h0 n0) := by
  refine own_met_of (plainFor_of_name pn_1) (ef_1_4 ) ?_
  intro p e s m below meth c s₁ X hx hby hml hZ hown hnm hret hlk eT
  have hown : s.vm.findClass "com/example/intrcom/intrcom/CommandIsAnswerPinLaw" = some m.cls := hown
  have N := Fr.nil n0
  refine own_iloadN X hx hby (4 : Int32) d1_0 rfl 1 rfl ?_
  have c1 : ¬ (4 : Int32) = (0 : Int32) := by decide
  refine own_if_ne X hx hby d1_1 8 4 (by decide) rfl (fun _ => ?_) (fun q => absurd q c1)
  refine own_iloadN X hx hby (4 : Int32) d1_8 rfl 9 rfl ?_
  refine own_iconst X hx hby (1 : Int32) d1_9 rfl 10 rfl ?_
  have c10 : ¬ (4 : Int32) = (1 : Int32) := by decide
  refine own_icmp_ne X hx hby d1_10 17 13 (by decide) rfl (fun _ => ?_) (fun q => absurd q c10)
  refine own_iloadN X hx hby (4 : Int32) d1_17 rfl 18 rfl ?_
  refine own_iconst X hx hby (2 : Int32) d1_18 rfl 19 rfl ?_
  have c19 : ¬ (4 : Int32) = (2 : Int32) := by decide
  refine own_icmp_ne X hx hby d1_19 26 22 (by decide) rfl (fun _ => ?_) (fun q => absurd q c19)
  refine own_iloadN X hx hby (4 : Int32) d1_26 rfl 27 rfl ?_
  refine own_iconst X hx hby (3 : Int32) d1_27 rfl 28 rfl ?_
  have c28 : ¬ (4 : Int32) = (3 : Int32) := by decide
  refine own_icmp_ne X hx hby d1_28 35 31 (by decide) rfl (fun _ => ?_) (fun q => absurd q c28)
  refine own_iloadN X hx hby (4 : Int32) d1_35 rfl 36 rfl ?_
  refine own_iconst X hx hby (4 : Int32) d1_36 rfl 37 rfl ?_
  have c37 : (4 : Int32) = (4 : Int32) := by decide
  refine own_icmp_ne X hx hby d1_37 44 40 (by decide) rfl (fun q => absurd c37 q) (fun _ => ?_)
  refine own_getS X hx hby hZ hown (host := "") (Or.inl (hw _ (List.mem_of_getElem? (i := 50) rfl))) Via.refl eT S_DISCONNECT d1_40 43 rfl ?_
  intro T40 X eT
  refine own_retA X hx hby hret hlk rfl rfl rfl d1_43 (by decide) (by decide) ?_
  rw [eT]
  exact ⟨rfl, N, rfl⟩
theorem ef_1_5  (m : MethodId) : entryFrame m #[(.int (5 : Int32))] 1 = mkF m 0 #[.val (.int (5 : Int32))] [] := by first | (simp [entryFrame, mkF, argsToLocals, Value.category]; done) | rfl
def Q1_5 (Z : State) (u_ERROR : Addr) (h0 : Heap) (n0 : Nat) (v : Option Value) (h : Heap) (L : List Loc) : Prop := v = some (.ref u_ERROR) ∧ Fr n0 L ∧ h = h0
set_option maxRecDepth 65536 in
set_option maxHeartbeats 40000000 in
theorem rm1_5 (l : Launch) (Z : State) (a0 : Array Value) (hw : ∀ d ∈ tables_1, d.before a0 Z = true) (u_ERROR : Addr) (h0 : Heap) (n0 : Nat) (Zs : n0 ≤ h0.size) (S_ERROR : Sta Z h0 "com/example/intrcom/intrcom/Command" "ERROR" "Lcom/example/intrcom/intrcom/Command;" (.ref u_ERROR)) :
    Met1 l Z (⟨"com/example/intrcom/intrcom/CommandIsAnswerPinLaw", "pick", "(I)Lcom/example/intrcom/intrcom/Command;"⟩ : MethodName) method_2_code 1 (some (.object "com/example/intrcom/intrcom/Command")) ({ frames := 0, cells := 0, slots := 0, locals := 0 } : Room) #[(.int (5 : Int32))] h0 (Q1_5 Z u_ERROR h0 n0) := by
  refine own_met_of (plainFor_of_name pn_1) (ef_1_5 ) ?_
  intro p e s m below meth c s₁ X hx hby hml hZ hown hnm hret hlk eT
  have hown : s.vm.findClass "com/example/intrcom/intrcom/CommandIsAnswerPinLaw" = some m.cls := hown
  have N := Fr.nil n0
  refine own_iloadN X hx hby (5 : Int32) d1_0 rfl 1 rfl ?_
  have c1 : ¬ (5 : Int32) = (0 : Int32) := by decide
  refine own_if_ne X hx hby d1_1 8 4 (by decide) rfl (fun _ => ?_) (fun q => absurd q c1)
  refine own_iloadN X hx hby (5 : Int32) d1_8 rfl 9 rfl ?_
  refine own_iconst X hx hby (1 : Int32) d1_9 rfl 10 rfl ?_
  have c10 : ¬ (5 : Int32) = (1 : Int32) := by decide
  refine own_icmp_ne X hx hby d1_10 17 13 (by decide) rfl (fun _ => ?_) (fun q => absurd q c10)
  refine own_iloadN X hx hby (5 : Int32) d1_17 rfl 18 rfl ?_
  refine own_iconst X hx hby (2 : Int32) d1_18 rfl 19 rfl ?_
  have c19 : ¬ (5 : Int32) = (2 : Int32) := by decide
  refine own_icmp_ne X hx hby d1_19 26 22 (by decide) rfl (fun _ => ?_) (fun q => absurd q c19)
  refine own_iloadN X hx hby (5 : Int32) d1_26 rfl 27 rfl ?_
  refine own_iconst X hx hby (3 : Int32) d1_27 rfl 28 rfl ?_
  have c28 : ¬ (5 : Int32) = (3 : Int32) := by decide
  refine own_icmp_ne X hx hby d1_28 35 31 (by decide) rfl (fun _ => ?_) (fun q => absurd q c28)
  refine own_iloadN X hx hby (5 : Int32) d1_35 rfl 36 rfl ?_
  refine own_iconst X hx hby (4 : Int32) d1_36 rfl 37 rfl ?_
  have c37 : ¬ (5 : Int32) = (4 : Int32) := by decide
  refine own_icmp_ne X hx hby d1_37 44 40 (by decide) rfl (fun _ => ?_) (fun q => absurd q c37)
  refine own_iloadN X hx hby (5 : Int32) d1_44 rfl 45 rfl ?_
  refine own_iconst X hx hby (5 : Int32) d1_45 rfl 46 rfl ?_
  have c46 : (5 : Int32) = (5 : Int32) := by decide
  refine own_icmp_ne X hx hby d1_46 53 49 (by decide) rfl (fun q => absurd c46 q) (fun _ => ?_)
  refine own_getS X hx hby hZ hown (host := "") (Or.inl (hw _ (List.mem_of_getElem? (i := 28) rfl))) Via.refl eT S_ERROR d1_49 52 rfl ?_
  intro T49 X eT
  refine own_retA X hx hby hret hlk rfl rfl rfl d1_52 (by decide) (by decide) ?_
  rw [eT]
  exact ⟨rfl, N, rfl⟩
theorem ef_1_6  (m : MethodId) : entryFrame m #[(.int (6 : Int32))] 1 = mkF m 0 #[.val (.int (6 : Int32))] [] := by first | (simp [entryFrame, mkF, argsToLocals, Value.category]; done) | rfl
def Q1_6 (Z : State) (u_HEALTH : Addr) (h0 : Heap) (n0 : Nat) (v : Option Value) (h : Heap) (L : List Loc) : Prop := v = some (.ref u_HEALTH) ∧ Fr n0 L ∧ h = h0
set_option maxRecDepth 65536 in
set_option maxHeartbeats 40000000 in
theorem rm1_6 (l : Launch) (Z : State) (a0 : Array Value) (hw : ∀ d ∈ tables_1, d.before a0 Z = true) (u_HEALTH : Addr) (h0 : Heap) (n0 : Nat) (Zs : n0 ≤ h0.size) (S_HEALTH : Sta Z h0 "com/example/intrcom/intrcom/Command" "HEALTH" "Lcom/example/intrcom/intrcom/Command;" (.ref u_HEALTH)) :
    Met1 l Z (⟨"com/example/intrcom/intrcom/CommandIsAnswerPinLaw", "pick", "(I)Lcom/example/intrcom/intrcom/Command;"⟩ : MethodName) method_2_code 1 (some (.object "com/example/intrcom/intrcom/Command")) ({ frames := 0, cells := 0, slots := 0, locals := 0 } : Room) #[(.int (6 : Int32))] h0 (Q1_6 Z u_HEALTH h0 n0) := by
  refine own_met_of (plainFor_of_name pn_1) (ef_1_6 ) ?_
  intro p e s m below meth c s₁ X hx hby hml hZ hown hnm hret hlk eT
  have hown : s.vm.findClass "com/example/intrcom/intrcom/CommandIsAnswerPinLaw" = some m.cls := hown
  have N := Fr.nil n0
  refine own_iloadN X hx hby (6 : Int32) d1_0 rfl 1 rfl ?_
  have c1 : ¬ (6 : Int32) = (0 : Int32) := by decide
  refine own_if_ne X hx hby d1_1 8 4 (by decide) rfl (fun _ => ?_) (fun q => absurd q c1)
  refine own_iloadN X hx hby (6 : Int32) d1_8 rfl 9 rfl ?_
  refine own_iconst X hx hby (1 : Int32) d1_9 rfl 10 rfl ?_
  have c10 : ¬ (6 : Int32) = (1 : Int32) := by decide
  refine own_icmp_ne X hx hby d1_10 17 13 (by decide) rfl (fun _ => ?_) (fun q => absurd q c10)
  refine own_iloadN X hx hby (6 : Int32) d1_17 rfl 18 rfl ?_
  refine own_iconst X hx hby (2 : Int32) d1_18 rfl 19 rfl ?_
  have c19 : ¬ (6 : Int32) = (2 : Int32) := by decide
  refine own_icmp_ne X hx hby d1_19 26 22 (by decide) rfl (fun _ => ?_) (fun q => absurd q c19)
  refine own_iloadN X hx hby (6 : Int32) d1_26 rfl 27 rfl ?_
  refine own_iconst X hx hby (3 : Int32) d1_27 rfl 28 rfl ?_
  have c28 : ¬ (6 : Int32) = (3 : Int32) := by decide
  refine own_icmp_ne X hx hby d1_28 35 31 (by decide) rfl (fun _ => ?_) (fun q => absurd q c28)
  refine own_iloadN X hx hby (6 : Int32) d1_35 rfl 36 rfl ?_
  refine own_iconst X hx hby (4 : Int32) d1_36 rfl 37 rfl ?_
  have c37 : ¬ (6 : Int32) = (4 : Int32) := by decide
  refine own_icmp_ne X hx hby d1_37 44 40 (by decide) rfl (fun _ => ?_) (fun q => absurd q c37)
  refine own_iloadN X hx hby (6 : Int32) d1_44 rfl 45 rfl ?_
  refine own_iconst X hx hby (5 : Int32) d1_45 rfl 46 rfl ?_
  have c46 : ¬ (6 : Int32) = (5 : Int32) := by decide
  refine own_icmp_ne X hx hby d1_46 53 49 (by decide) rfl (fun _ => ?_) (fun q => absurd q c46)
  refine own_iloadN X hx hby (6 : Int32) d1_53 rfl 54 rfl ?_
  refine own_bipush X hx hby (6 : Int32) d1_54 rfl 56 rfl ?_
  have c56 : (6 : Int32) = (6 : Int32) := by decide
  refine own_icmp_ne X hx hby d1_56 63 59 (by decide) rfl (fun q => absurd c56 q) (fun _ => ?_)
  refine own_getS X hx hby hZ hown (host := "") (Or.inl (hw _ (List.mem_of_getElem? (i := 46) rfl))) Via.refl eT S_HEALTH d1_59 62 rfl ?_
  intro T59 X eT
  refine own_retA X hx hby hret hlk rfl rfl rfl d1_62 (by decide) (by decide) ?_
  rw [eT]
  exact ⟨rfl, N, rfl⟩
theorem ef_1_7  (m : MethodId) : entryFrame m #[(.int (7 : Int32))] 1 = mkF m 0 #[.val (.int (7 : Int32))] [] := by first | (simp [entryFrame, mkF, argsToLocals, Value.category]; done) | rfl
def Q1_7 (Z : State) (u_SUBSCRIBE : Addr) (h0 : Heap) (n0 : Nat) (v : Option Value) (h : Heap) (L : List Loc) : Prop := v = some (.ref u_SUBSCRIBE) ∧ Fr n0 L ∧ h = h0
set_option maxRecDepth 65536 in
set_option maxHeartbeats 40000000 in
theorem rm1_7 (l : Launch) (Z : State) (a0 : Array Value) (hw : ∀ d ∈ tables_1, d.before a0 Z = true) (u_SUBSCRIBE : Addr) (h0 : Heap) (n0 : Nat) (Zs : n0 ≤ h0.size) (S_SUBSCRIBE : Sta Z h0 "com/example/intrcom/intrcom/Command" "SUBSCRIBE" "Lcom/example/intrcom/intrcom/Command;" (.ref u_SUBSCRIBE)) :
    Met1 l Z (⟨"com/example/intrcom/intrcom/CommandIsAnswerPinLaw", "pick", "(I)Lcom/example/intrcom/intrcom/Command;"⟩ : MethodName) method_2_code 1 (some (.object "com/example/intrcom/intrcom/Command")) ({ frames := 0, cells := 0, slots := 0, locals := 0 } : Room) #[(.int (7 : Int32))] h0 (Q1_7 Z u_SUBSCRIBE h0 n0) := by
  refine own_met_of (plainFor_of_name pn_1) (ef_1_7 ) ?_
  intro p e s m below meth c s₁ X hx hby hml hZ hown hnm hret hlk eT
  have hown : s.vm.findClass "com/example/intrcom/intrcom/CommandIsAnswerPinLaw" = some m.cls := hown
  have N := Fr.nil n0
  refine own_iloadN X hx hby (7 : Int32) d1_0 rfl 1 rfl ?_
  have c1 : ¬ (7 : Int32) = (0 : Int32) := by decide
  refine own_if_ne X hx hby d1_1 8 4 (by decide) rfl (fun _ => ?_) (fun q => absurd q c1)
  refine own_iloadN X hx hby (7 : Int32) d1_8 rfl 9 rfl ?_
  refine own_iconst X hx hby (1 : Int32) d1_9 rfl 10 rfl ?_
  have c10 : ¬ (7 : Int32) = (1 : Int32) := by decide
  refine own_icmp_ne X hx hby d1_10 17 13 (by decide) rfl (fun _ => ?_) (fun q => absurd q c10)
  refine own_iloadN X hx hby (7 : Int32) d1_17 rfl 18 rfl ?_
  refine own_iconst X hx hby (2 : Int32) d1_18 rfl 19 rfl ?_
  have c19 : ¬ (7 : Int32) = (2 : Int32) := by decide
  refine own_icmp_ne X hx hby d1_19 26 22 (by decide) rfl (fun _ => ?_) (fun q => absurd q c19)
  refine own_iloadN X hx hby (7 : Int32) d1_26 rfl 27 rfl ?_
  refine own_iconst X hx hby (3 : Int32) d1_27 rfl 28 rfl ?_
  have c28 : ¬ (7 : Int32) = (3 : Int32) := by decide
  refine own_icmp_ne X hx hby d1_28 35 31 (by decide) rfl (fun _ => ?_) (fun q => absurd q c28)
  refine own_iloadN X hx hby (7 : Int32) d1_35 rfl 36 rfl ?_
  refine own_iconst X hx hby (4 : Int32) d1_36 rfl 37 rfl ?_
  have c37 : ¬ (7 : Int32) = (4 : Int32) := by decide
  refine own_icmp_ne X hx hby d1_37 44 40 (by decide) rfl (fun _ => ?_) (fun q => absurd q c37)
  refine own_iloadN X hx hby (7 : Int32) d1_44 rfl 45 rfl ?_
  refine own_iconst X hx hby (5 : Int32) d1_45 rfl 46 rfl ?_
  have c46 : ¬ (7 : Int32) = (5 : Int32) := by decide
  refine own_icmp_ne X hx hby d1_46 53 49 (by decide) rfl (fun _ => ?_) (fun q => absurd q c46)
  refine own_iloadN X hx hby (7 : Int32) d1_53 rfl 54 rfl ?_
  refine own_bipush X hx hby (6 : Int32) d1_54 rfl 56 rfl ?_
  have c56 : ¬ (7 : Int32) = (6 : Int32) := by decide
  refine own_icmp_ne X hx hby d1_56 63 59 (by decide) rfl (fun _ => ?_) (fun q => absurd q c56)
  refine own_iloadN X hx hby (7 : Int32) d1_63 rfl 64 rfl ?_
  refine own_bipush X hx hby (7 : Int32) d1_64 rfl 66 rfl ?_
  have c66 : (7 : Int32) = (7 : Int32) := by decide
  refine own_icmp_ne X hx hby d1_66 73 69 (by decide) rfl (fun q => absurd c66 q) (fun _ => ?_)
  refine own_getS X hx hby hZ hown (host := "") (Or.inl (hw _ (List.mem_of_getElem? (i := 31) rfl))) Via.refl eT S_SUBSCRIBE d1_69 72 rfl ?_
  intro T69 X eT
  refine own_retA X hx hby hret hlk rfl rfl rfl d1_72 (by decide) (by decide) ?_
  rw [eT]
  exact ⟨rfl, N, rfl⟩
theorem ef_1_8  (m : MethodId) : entryFrame m #[(.int (8 : Int32))] 1 = mkF m 0 #[.val (.int (8 : Int32))] [] := by first | (simp [entryFrame, mkF, argsToLocals, Value.category]; done) | rfl
def Q1_8 (Z : State) (u_PUBLISH : Addr) (h0 : Heap) (n0 : Nat) (v : Option Value) (h : Heap) (L : List Loc) : Prop := v = some (.ref u_PUBLISH) ∧ Fr n0 L ∧ h = h0
set_option maxRecDepth 65536 in
set_option maxHeartbeats 40000000 in
theorem rm1_8 (l : Launch) (Z : State) (a0 : Array Value) (hw : ∀ d ∈ tables_1, d.before a0 Z = true) (u_PUBLISH : Addr) (h0 : Heap) (n0 : Nat) (Zs : n0 ≤ h0.size) (S_PUBLISH : Sta Z h0 "com/example/intrcom/intrcom/Command" "PUBLISH" "Lcom/example/intrcom/intrcom/Command;" (.ref u_PUBLISH)) :
    Met1 l Z (⟨"com/example/intrcom/intrcom/CommandIsAnswerPinLaw", "pick", "(I)Lcom/example/intrcom/intrcom/Command;"⟩ : MethodName) method_2_code 1 (some (.object "com/example/intrcom/intrcom/Command")) ({ frames := 0, cells := 0, slots := 0, locals := 0 } : Room) #[(.int (8 : Int32))] h0 (Q1_8 Z u_PUBLISH h0 n0) := by
  refine own_met_of (plainFor_of_name pn_1) (ef_1_8 ) ?_
  intro p e s m below meth c s₁ X hx hby hml hZ hown hnm hret hlk eT
  have hown : s.vm.findClass "com/example/intrcom/intrcom/CommandIsAnswerPinLaw" = some m.cls := hown
  have N := Fr.nil n0
  refine own_iloadN X hx hby (8 : Int32) d1_0 rfl 1 rfl ?_
  have c1 : ¬ (8 : Int32) = (0 : Int32) := by decide
  refine own_if_ne X hx hby d1_1 8 4 (by decide) rfl (fun _ => ?_) (fun q => absurd q c1)
  refine own_iloadN X hx hby (8 : Int32) d1_8 rfl 9 rfl ?_
  refine own_iconst X hx hby (1 : Int32) d1_9 rfl 10 rfl ?_
  have c10 : ¬ (8 : Int32) = (1 : Int32) := by decide
  refine own_icmp_ne X hx hby d1_10 17 13 (by decide) rfl (fun _ => ?_) (fun q => absurd q c10)
  refine own_iloadN X hx hby (8 : Int32) d1_17 rfl 18 rfl ?_
  refine own_iconst X hx hby (2 : Int32) d1_18 rfl 19 rfl ?_
  have c19 : ¬ (8 : Int32) = (2 : Int32) := by decide
  refine own_icmp_ne X hx hby d1_19 26 22 (by decide) rfl (fun _ => ?_) (fun q => absurd q c19)
  refine own_iloadN X hx hby (8 : Int32) d1_26 rfl 27 rfl ?_
  refine own_iconst X hx hby (3 : Int32) d1_27 rfl 28 rfl ?_
  have c28 : ¬ (8 : Int32) = (3 : Int32) := by decide
  refine own_icmp_ne X hx hby d1_28 35 31 (by decide) rfl (fun _ => ?_) (fun q => absurd q c28)
  refine own_iloadN X hx hby (8 : Int32) d1_35 rfl 36 rfl ?_
  refine own_iconst X hx hby (4 : Int32) d1_36 rfl 37 rfl ?_
  have c37 : ¬ (8 : Int32) = (4 : Int32) := by decide
  refine own_icmp_ne X hx hby d1_37 44 40 (by decide) rfl (fun _ => ?_) (fun q => absurd q c37)
  refine own_iloadN X hx hby (8 : Int32) d1_44 rfl 45 rfl ?_
  refine own_iconst X hx hby (5 : Int32) d1_45 rfl 46 rfl ?_
  have c46 : ¬ (8 : Int32) = (5 : Int32) := by decide
  refine own_icmp_ne X hx hby d1_46 53 49 (by decide) rfl (fun _ => ?_) (fun q => absurd q c46)
  refine own_iloadN X hx hby (8 : Int32) d1_53 rfl 54 rfl ?_
  refine own_bipush X hx hby (6 : Int32) d1_54 rfl 56 rfl ?_
  have c56 : ¬ (8 : Int32) = (6 : Int32) := by decide
  refine own_icmp_ne X hx hby d1_56 63 59 (by decide) rfl (fun _ => ?_) (fun q => absurd q c56)
  refine own_iloadN X hx hby (8 : Int32) d1_63 rfl 64 rfl ?_
  refine own_bipush X hx hby (7 : Int32) d1_64 rfl 66 rfl ?_
  have c66 : ¬ (8 : Int32) = (7 : Int32) := by decide
  refine own_icmp_ne X hx hby d1_66 73 69 (by decide) rfl (fun _ => ?_) (fun q => absurd q c66)
  refine own_iloadN X hx hby (8 : Int32) d1_73 rfl 74 rfl ?_
  refine own_bipush X hx hby (8 : Int32) d1_74 rfl 76 rfl ?_
  have c76 : (8 : Int32) = (8 : Int32) := by decide
  refine own_icmp_ne X hx hby d1_76 83 79 (by decide) rfl (fun q => absurd c76 q) (fun _ => ?_)
  refine own_getS X hx hby hZ hown (host := "") (Or.inl (hw _ (List.mem_of_getElem? (i := 38) rfl))) Via.refl eT S_PUBLISH d1_79 82 rfl ?_
  intro T79 X eT
  refine own_retA X hx hby hret hlk rfl rfl rfl d1_82 (by decide) (by decide) ?_
  rw [eT]
  exact ⟨rfl, N, rfl⟩
theorem ef_1_9  (m : MethodId) : entryFrame m #[(.int (9 : Int32))] 1 = mkF m 0 #[.val (.int (9 : Int32))] [] := by first | (simp [entryFrame, mkF, argsToLocals, Value.category]; done) | rfl
def Q1_9 (Z : State) (u_RECEIVED : Addr) (h0 : Heap) (n0 : Nat) (v : Option Value) (h : Heap) (L : List Loc) : Prop := v = some (.ref u_RECEIVED) ∧ Fr n0 L ∧ h = h0
set_option maxRecDepth 65536 in
set_option maxHeartbeats 40000000 in
theorem rm1_9 (l : Launch) (Z : State) (a0 : Array Value) (hw : ∀ d ∈ tables_1, d.before a0 Z = true) (u_RECEIVED : Addr) (h0 : Heap) (n0 : Nat) (Zs : n0 ≤ h0.size) (S_RECEIVED : Sta Z h0 "com/example/intrcom/intrcom/Command" "RECEIVED" "Lcom/example/intrcom/intrcom/Command;" (.ref u_RECEIVED)) :
    Met1 l Z (⟨"com/example/intrcom/intrcom/CommandIsAnswerPinLaw", "pick", "(I)Lcom/example/intrcom/intrcom/Command;"⟩ : MethodName) method_2_code 1 (some (.object "com/example/intrcom/intrcom/Command")) ({ frames := 0, cells := 0, slots := 0, locals := 0 } : Room) #[(.int (9 : Int32))] h0 (Q1_9 Z u_RECEIVED h0 n0) := by
  refine own_met_of (plainFor_of_name pn_1) (ef_1_9 ) ?_
  intro p e s m below meth c s₁ X hx hby hml hZ hown hnm hret hlk eT
  have hown : s.vm.findClass "com/example/intrcom/intrcom/CommandIsAnswerPinLaw" = some m.cls := hown
  have N := Fr.nil n0
  refine own_iloadN X hx hby (9 : Int32) d1_0 rfl 1 rfl ?_
  have c1 : ¬ (9 : Int32) = (0 : Int32) := by decide
  refine own_if_ne X hx hby d1_1 8 4 (by decide) rfl (fun _ => ?_) (fun q => absurd q c1)
  refine own_iloadN X hx hby (9 : Int32) d1_8 rfl 9 rfl ?_
  refine own_iconst X hx hby (1 : Int32) d1_9 rfl 10 rfl ?_
  have c10 : ¬ (9 : Int32) = (1 : Int32) := by decide
  refine own_icmp_ne X hx hby d1_10 17 13 (by decide) rfl (fun _ => ?_) (fun q => absurd q c10)
  refine own_iloadN X hx hby (9 : Int32) d1_17 rfl 18 rfl ?_
  refine own_iconst X hx hby (2 : Int32) d1_18 rfl 19 rfl ?_
  have c19 : ¬ (9 : Int32) = (2 : Int32) := by decide
  refine own_icmp_ne X hx hby d1_19 26 22 (by decide) rfl (fun _ => ?_) (fun q => absurd q c19)
  refine own_iloadN X hx hby (9 : Int32) d1_26 rfl 27 rfl ?_
  refine own_iconst X hx hby (3 : Int32) d1_27 rfl 28 rfl ?_
  have c28 : ¬ (9 : Int32) = (3 : Int32) := by decide
  refine own_icmp_ne X hx hby d1_28 35 31 (by decide) rfl (fun _ => ?_) (fun q => absurd q c28)
  refine own_iloadN X hx hby (9 : Int32) d1_35 rfl 36 rfl ?_
  refine own_iconst X hx hby (4 : Int32) d1_36 rfl 37 rfl ?_
  have c37 : ¬ (9 : Int32) = (4 : Int32) := by decide
  refine own_icmp_ne X hx hby d1_37 44 40 (by decide) rfl (fun _ => ?_) (fun q => absurd q c37)
  refine own_iloadN X hx hby (9 : Int32) d1_44 rfl 45 rfl ?_
  refine own_iconst X hx hby (5 : Int32) d1_45 rfl 46 rfl ?_
  have c46 : ¬ (9 : Int32) = (5 : Int32) := by decide
  refine own_icmp_ne X hx hby d1_46 53 49 (by decide) rfl (fun _ => ?_) (fun q => absurd q c46)
  refine own_iloadN X hx hby (9 : Int32) d1_53 rfl 54 rfl ?_
  refine own_bipush X hx hby (6 : Int32) d1_54 rfl 56 rfl ?_
  have c56 : ¬ (9 : Int32) = (6 : Int32) := by decide
  refine own_icmp_ne X hx hby d1_56 63 59 (by decide) rfl (fun _ => ?_) (fun q => absurd q c56)
  refine own_iloadN X hx hby (9 : Int32) d1_63 rfl 64 rfl ?_
  refine own_bipush X hx hby (7 : Int32) d1_64 rfl 66 rfl ?_
  have c66 : ¬ (9 : Int32) = (7 : Int32) := by decide
  refine own_icmp_ne X hx hby d1_66 73 69 (by decide) rfl (fun _ => ?_) (fun q => absurd q c66)
  refine own_iloadN X hx hby (9 : Int32) d1_73 rfl 74 rfl ?_
  refine own_bipush X hx hby (8 : Int32) d1_74 rfl 76 rfl ?_
  have c76 : ¬ (9 : Int32) = (8 : Int32) := by decide
  refine own_icmp_ne X hx hby d1_76 83 79 (by decide) rfl (fun _ => ?_) (fun q => absurd q c76)
  refine own_iloadN X hx hby (9 : Int32) d1_83 rfl 84 rfl ?_
  refine own_bipush X hx hby (9 : Int32) d1_84 rfl 86 rfl ?_
  have c86 : (9 : Int32) = (9 : Int32) := by decide
  refine own_icmp_ne X hx hby d1_86 93 89 (by decide) rfl (fun q => absurd c86 q) (fun _ => ?_)
  refine own_getS X hx hby hZ hown (host := "") (Or.inl (hw _ (List.mem_of_getElem? (i := 52) rfl))) Via.refl eT S_RECEIVED d1_89 92 rfl ?_
  intro T89 X eT
  refine own_retA X hx hby hret hlk rfl rfl rfl d1_92 (by decide) (by decide) ?_
  rw [eT]
  exact ⟨rfl, N, rfl⟩
theorem ef_1_10  (m : MethodId) : entryFrame m #[(.int (10 : Int32))] 1 = mkF m 0 #[.val (.int (10 : Int32))] [] := by first | (simp [entryFrame, mkF, argsToLocals, Value.category]; done) | rfl
def Q1_10 (Z : State) (u_HOLD : Addr) (h0 : Heap) (n0 : Nat) (v : Option Value) (h : Heap) (L : List Loc) : Prop := v = some (.ref u_HOLD) ∧ Fr n0 L ∧ h = h0
set_option maxRecDepth 65536 in
set_option maxHeartbeats 40000000 in
theorem rm1_10 (l : Launch) (Z : State) (a0 : Array Value) (hw : ∀ d ∈ tables_1, d.before a0 Z = true) (u_HOLD : Addr) (h0 : Heap) (n0 : Nat) (Zs : n0 ≤ h0.size) (S_HOLD : Sta Z h0 "com/example/intrcom/intrcom/Command" "HOLD" "Lcom/example/intrcom/intrcom/Command;" (.ref u_HOLD)) :
    Met1 l Z (⟨"com/example/intrcom/intrcom/CommandIsAnswerPinLaw", "pick", "(I)Lcom/example/intrcom/intrcom/Command;"⟩ : MethodName) method_2_code 1 (some (.object "com/example/intrcom/intrcom/Command")) ({ frames := 0, cells := 0, slots := 0, locals := 0 } : Room) #[(.int (10 : Int32))] h0 (Q1_10 Z u_HOLD h0 n0) := by
  refine own_met_of (plainFor_of_name pn_1) (ef_1_10 ) ?_
  intro p e s m below meth c s₁ X hx hby hml hZ hown hnm hret hlk eT
  have hown : s.vm.findClass "com/example/intrcom/intrcom/CommandIsAnswerPinLaw" = some m.cls := hown
  have N := Fr.nil n0
  refine own_iloadN X hx hby (10 : Int32) d1_0 rfl 1 rfl ?_
  have c1 : ¬ (10 : Int32) = (0 : Int32) := by decide
  refine own_if_ne X hx hby d1_1 8 4 (by decide) rfl (fun _ => ?_) (fun q => absurd q c1)
  refine own_iloadN X hx hby (10 : Int32) d1_8 rfl 9 rfl ?_
  refine own_iconst X hx hby (1 : Int32) d1_9 rfl 10 rfl ?_
  have c10 : ¬ (10 : Int32) = (1 : Int32) := by decide
  refine own_icmp_ne X hx hby d1_10 17 13 (by decide) rfl (fun _ => ?_) (fun q => absurd q c10)
  refine own_iloadN X hx hby (10 : Int32) d1_17 rfl 18 rfl ?_
  refine own_iconst X hx hby (2 : Int32) d1_18 rfl 19 rfl ?_
  have c19 : ¬ (10 : Int32) = (2 : Int32) := by decide
  refine own_icmp_ne X hx hby d1_19 26 22 (by decide) rfl (fun _ => ?_) (fun q => absurd q c19)
  refine own_iloadN X hx hby (10 : Int32) d1_26 rfl 27 rfl ?_
  refine own_iconst X hx hby (3 : Int32) d1_27 rfl 28 rfl ?_
  have c28 : ¬ (10 : Int32) = (3 : Int32) := by decide
  refine own_icmp_ne X hx hby d1_28 35 31 (by decide) rfl (fun _ => ?_) (fun q => absurd q c28)
  refine own_iloadN X hx hby (10 : Int32) d1_35 rfl 36 rfl ?_
  refine own_iconst X hx hby (4 : Int32) d1_36 rfl 37 rfl ?_
  have c37 : ¬ (10 : Int32) = (4 : Int32) := by decide
  refine own_icmp_ne X hx hby d1_37 44 40 (by decide) rfl (fun _ => ?_) (fun q => absurd q c37)
  refine own_iloadN X hx hby (10 : Int32) d1_44 rfl 45 rfl ?_
  refine own_iconst X hx hby (5 : Int32) d1_45 rfl 46 rfl ?_
  have c46 : ¬ (10 : Int32) = (5 : Int32) := by decide
  refine own_icmp_ne X hx hby d1_46 53 49 (by decide) rfl (fun _ => ?_) (fun q => absurd q c46)
  refine own_iloadN X hx hby (10 : Int32) d1_53 rfl 54 rfl ?_
  refine own_bipush X hx hby (6 : Int32) d1_54 rfl 56 rfl ?_
  have c56 : ¬ (10 : Int32) = (6 : Int32) := by decide
  refine own_icmp_ne X hx hby d1_56 63 59 (by decide) rfl (fun _ => ?_) (fun q => absurd q c56)
  refine own_iloadN X hx hby (10 : Int32) d1_63 rfl 64 rfl ?_
  refine own_bipush X hx hby (7 : Int32) d1_64 rfl 66 rfl ?_
  have c66 : ¬ (10 : Int32) = (7 : Int32) := by decide
  refine own_icmp_ne X hx hby d1_66 73 69 (by decide) rfl (fun _ => ?_) (fun q => absurd q c66)
  refine own_iloadN X hx hby (10 : Int32) d1_73 rfl 74 rfl ?_
  refine own_bipush X hx hby (8 : Int32) d1_74 rfl 76 rfl ?_
  have c76 : ¬ (10 : Int32) = (8 : Int32) := by decide
  refine own_icmp_ne X hx hby d1_76 83 79 (by decide) rfl (fun _ => ?_) (fun q => absurd q c76)
  refine own_iloadN X hx hby (10 : Int32) d1_83 rfl 84 rfl ?_
  refine own_bipush X hx hby (9 : Int32) d1_84 rfl 86 rfl ?_
  have c86 : ¬ (10 : Int32) = (9 : Int32) := by decide
  refine own_icmp_ne X hx hby d1_86 93 89 (by decide) rfl (fun _ => ?_) (fun q => absurd q c86)
  refine own_iloadN X hx hby (10 : Int32) d1_93 rfl 94 rfl ?_
  refine own_bipush X hx hby (10 : Int32) d1_94 rfl 96 rfl ?_
  have c96 : (10 : Int32) = (10 : Int32) := by decide
  refine own_icmp_ne X hx hby d1_96 103 99 (by decide) rfl (fun q => absurd c96 q) (fun _ => ?_)
  refine own_getS X hx hby hZ hown (host := "") (Or.inl (hw _ (List.mem_of_getElem? (i := 36) rfl))) Via.refl eT S_HOLD d1_99 102 rfl ?_
  intro T99 X eT
  refine own_retA X hx hby hret hlk rfl rfl rfl d1_102 (by decide) (by decide) ?_
  rw [eT]
  exact ⟨rfl, N, rfl⟩
theorem ef_1_11  (m : MethodId) : entryFrame m #[(.int (11 : Int32))] 1 = mkF m 0 #[.val (.int (11 : Int32))] [] := by first | (simp [entryFrame, mkF, argsToLocals, Value.category]; done) | rfl
def Q1_11 (Z : State) (u_GONE : Addr) (h0 : Heap) (n0 : Nat) (v : Option Value) (h : Heap) (L : List Loc) : Prop := v = some (.ref u_GONE) ∧ Fr n0 L ∧ h = h0
set_option maxRecDepth 65536 in
set_option maxHeartbeats 40000000 in
theorem rm1_11 (l : Launch) (Z : State) (a0 : Array Value) (hw : ∀ d ∈ tables_1, d.before a0 Z = true) (u_GONE : Addr) (h0 : Heap) (n0 : Nat) (Zs : n0 ≤ h0.size) (S_GONE : Sta Z h0 "com/example/intrcom/intrcom/Command" "GONE" "Lcom/example/intrcom/intrcom/Command;" (.ref u_GONE)) :
    Met1 l Z (⟨"com/example/intrcom/intrcom/CommandIsAnswerPinLaw", "pick", "(I)Lcom/example/intrcom/intrcom/Command;"⟩ : MethodName) method_2_code 1 (some (.object "com/example/intrcom/intrcom/Command")) ({ frames := 0, cells := 0, slots := 0, locals := 0 } : Room) #[(.int (11 : Int32))] h0 (Q1_11 Z u_GONE h0 n0) := by
  refine own_met_of (plainFor_of_name pn_1) (ef_1_11 ) ?_
  intro p e s m below meth c s₁ X hx hby hml hZ hown hnm hret hlk eT
  have hown : s.vm.findClass "com/example/intrcom/intrcom/CommandIsAnswerPinLaw" = some m.cls := hown
  have N := Fr.nil n0
  refine own_iloadN X hx hby (11 : Int32) d1_0 rfl 1 rfl ?_
  have c1 : ¬ (11 : Int32) = (0 : Int32) := by decide
  refine own_if_ne X hx hby d1_1 8 4 (by decide) rfl (fun _ => ?_) (fun q => absurd q c1)
  refine own_iloadN X hx hby (11 : Int32) d1_8 rfl 9 rfl ?_
  refine own_iconst X hx hby (1 : Int32) d1_9 rfl 10 rfl ?_
  have c10 : ¬ (11 : Int32) = (1 : Int32) := by decide
  refine own_icmp_ne X hx hby d1_10 17 13 (by decide) rfl (fun _ => ?_) (fun q => absurd q c10)
  refine own_iloadN X hx hby (11 : Int32) d1_17 rfl 18 rfl ?_
  refine own_iconst X hx hby (2 : Int32) d1_18 rfl 19 rfl ?_
  have c19 : ¬ (11 : Int32) = (2 : Int32) := by decide
  refine own_icmp_ne X hx hby d1_19 26 22 (by decide) rfl (fun _ => ?_) (fun q => absurd q c19)
  refine own_iloadN X hx hby (11 : Int32) d1_26 rfl 27 rfl ?_
  refine own_iconst X hx hby (3 : Int32) d1_27 rfl 28 rfl ?_
  have c28 : ¬ (11 : Int32) = (3 : Int32) := by decide
  refine own_icmp_ne X hx hby d1_28 35 31 (by decide) rfl (fun _ => ?_) (fun q => absurd q c28)
  refine own_iloadN X hx hby (11 : Int32) d1_35 rfl 36 rfl ?_
  refine own_iconst X hx hby (4 : Int32) d1_36 rfl 37 rfl ?_
  have c37 : ¬ (11 : Int32) = (4 : Int32) := by decide
  refine own_icmp_ne X hx hby d1_37 44 40 (by decide) rfl (fun _ => ?_) (fun q => absurd q c37)
  refine own_iloadN X hx hby (11 : Int32) d1_44 rfl 45 rfl ?_
  refine own_iconst X hx hby (5 : Int32) d1_45 rfl 46 rfl ?_
  have c46 : ¬ (11 : Int32) = (5 : Int32) := by decide
  refine own_icmp_ne X hx hby d1_46 53 49 (by decide) rfl (fun _ => ?_) (fun q => absurd q c46)
  refine own_iloadN X hx hby (11 : Int32) d1_53 rfl 54 rfl ?_
  refine own_bipush X hx hby (6 : Int32) d1_54 rfl 56 rfl ?_
  have c56 : ¬ (11 : Int32) = (6 : Int32) := by decide
  refine own_icmp_ne X hx hby d1_56 63 59 (by decide) rfl (fun _ => ?_) (fun q => absurd q c56)
  refine own_iloadN X hx hby (11 : Int32) d1_63 rfl 64 rfl ?_
  refine own_bipush X hx hby (7 : Int32) d1_64 rfl 66 rfl ?_
  have c66 : ¬ (11 : Int32) = (7 : Int32) := by decide
  refine own_icmp_ne X hx hby d1_66 73 69 (by decide) rfl (fun _ => ?_) (fun q => absurd q c66)
  refine own_iloadN X hx hby (11 : Int32) d1_73 rfl 74 rfl ?_
  refine own_bipush X hx hby (8 : Int32) d1_74 rfl 76 rfl ?_
  have c76 : ¬ (11 : Int32) = (8 : Int32) := by decide
  refine own_icmp_ne X hx hby d1_76 83 79 (by decide) rfl (fun _ => ?_) (fun q => absurd q c76)
  refine own_iloadN X hx hby (11 : Int32) d1_83 rfl 84 rfl ?_
  refine own_bipush X hx hby (9 : Int32) d1_84 rfl 86 rfl ?_
  have c86 : ¬ (11 : Int32) = (9 : Int32) := by decide
  refine own_icmp_ne X hx hby d1_86 93 89 (by decide) rfl (fun _ => ?_) (fun q => absurd q c86)
  refine own_iloadN X hx hby (11 : Int32) d1_93 rfl 94 rfl ?_
  refine own_bipush X hx hby (10 : Int32) d1_94 rfl 96 rfl ?_
  have c96 : ¬ (11 : Int32) = (10 : Int32) := by decide
  refine own_icmp_ne X hx hby d1_96 103 99 (by decide) rfl (fun _ => ?_) (fun q => absurd q c96)
  refine own_iloadN X hx hby (11 : Int32) d1_103 rfl 104 rfl ?_
  refine own_bipush X hx hby (11 : Int32) d1_104 rfl 106 rfl ?_
  have c106 : (11 : Int32) = (11 : Int32) := by decide
  refine own_icmp_ne X hx hby d1_106 113 109 (by decide) rfl (fun q => absurd c106 q) (fun _ => ?_)
  refine own_getS X hx hby hZ hown (host := "") (Or.inl (hw _ (List.mem_of_getElem? (i := 34) rfl))) Via.refl eT S_GONE d1_109 112 rfl ?_
  intro T109 X eT
  refine own_retA X hx hby hret hlk rfl rfl rfl d1_112 (by decide) (by decide) ?_
  rw [eT]
  exact ⟨rfl, N, rfl⟩
theorem ef_1_12  (m : MethodId) : entryFrame m #[(.int (12 : Int32))] 1 = mkF m 0 #[.val (.int (12 : Int32))] [] := by first | (simp [entryFrame, mkF, argsToLocals, Value.category]; done) | rfl
def Q1_12 (Z : State) (u_GET : Addr) (h0 : Heap) (n0 : Nat) (v : Option Value) (h : Heap) (L : List Loc) : Prop := v = some (.ref u_GET) ∧ Fr n0 L ∧ h = h0
set_option maxRecDepth 65536 in
set_option maxHeartbeats 40000000 in
theorem rm1_12 (l : Launch) (Z : State) (a0 : Array Value) (hw : ∀ d ∈ tables_1, d.before a0 Z = true) (u_GET : Addr) (h0 : Heap) (n0 : Nat) (Zs : n0 ≤ h0.size) (S_GET : Sta Z h0 "com/example/intrcom/intrcom/Command" "GET" "Lcom/example/intrcom/intrcom/Command;" (.ref u_GET)) :
    Met1 l Z (⟨"com/example/intrcom/intrcom/CommandIsAnswerPinLaw", "pick", "(I)Lcom/example/intrcom/intrcom/Command;"⟩ : MethodName) method_2_code 1 (some (.object "com/example/intrcom/intrcom/Command")) ({ frames := 0, cells := 0, slots := 0, locals := 0 } : Room) #[(.int (12 : Int32))] h0 (Q1_12 Z u_GET h0 n0) := by
  refine own_met_of (plainFor_of_name pn_1) (ef_1_12 ) ?_
  intro p e s m below meth c s₁ X hx hby hml hZ hown hnm hret hlk eT
  have hown : s.vm.findClass "com/example/intrcom/intrcom/CommandIsAnswerPinLaw" = some m.cls := hown
  have N := Fr.nil n0
  refine own_iloadN X hx hby (12 : Int32) d1_0 rfl 1 rfl ?_
  have c1 : ¬ (12 : Int32) = (0 : Int32) := by decide
  refine own_if_ne X hx hby d1_1 8 4 (by decide) rfl (fun _ => ?_) (fun q => absurd q c1)
  refine own_iloadN X hx hby (12 : Int32) d1_8 rfl 9 rfl ?_
  refine own_iconst X hx hby (1 : Int32) d1_9 rfl 10 rfl ?_
  have c10 : ¬ (12 : Int32) = (1 : Int32) := by decide
  refine own_icmp_ne X hx hby d1_10 17 13 (by decide) rfl (fun _ => ?_) (fun q => absurd q c10)
  refine own_iloadN X hx hby (12 : Int32) d1_17 rfl 18 rfl ?_
  refine own_iconst X hx hby (2 : Int32) d1_18 rfl 19 rfl ?_
  have c19 : ¬ (12 : Int32) = (2 : Int32) := by decide
  refine own_icmp_ne X hx hby d1_19 26 22 (by decide) rfl (fun _ => ?_) (fun q => absurd q c19)
  refine own_iloadN X hx hby (12 : Int32) d1_26 rfl 27 rfl ?_
  refine own_iconst X hx hby (3 : Int32) d1_27 rfl 28 rfl ?_
  have c28 : ¬ (12 : Int32) = (3 : Int32) := by decide
  refine own_icmp_ne X hx hby d1_28 35 31 (by decide) rfl (fun _ => ?_) (fun q => absurd q c28)
  refine own_iloadN X hx hby (12 : Int32) d1_35 rfl 36 rfl ?_
  refine own_iconst X hx hby (4 : Int32) d1_36 rfl 37 rfl ?_
  have c37 : ¬ (12 : Int32) = (4 : Int32) := by decide
  refine own_icmp_ne X hx hby d1_37 44 40 (by decide) rfl (fun _ => ?_) (fun q => absurd q c37)
  refine own_iloadN X hx hby (12 : Int32) d1_44 rfl 45 rfl ?_
  refine own_iconst X hx hby (5 : Int32) d1_45 rfl 46 rfl ?_
  have c46 : ¬ (12 : Int32) = (5 : Int32) := by decide
  refine own_icmp_ne X hx hby d1_46 53 49 (by decide) rfl (fun _ => ?_) (fun q => absurd q c46)
  refine own_iloadN X hx hby (12 : Int32) d1_53 rfl 54 rfl ?_
  refine own_bipush X hx hby (6 : Int32) d1_54 rfl 56 rfl ?_
  have c56 : ¬ (12 : Int32) = (6 : Int32) := by decide
  refine own_icmp_ne X hx hby d1_56 63 59 (by decide) rfl (fun _ => ?_) (fun q => absurd q c56)
  refine own_iloadN X hx hby (12 : Int32) d1_63 rfl 64 rfl ?_
  refine own_bipush X hx hby (7 : Int32) d1_64 rfl 66 rfl ?_
  have c66 : ¬ (12 : Int32) = (7 : Int32) := by decide
  refine own_icmp_ne X hx hby d1_66 73 69 (by decide) rfl (fun _ => ?_) (fun q => absurd q c66)
  refine own_iloadN X hx hby (12 : Int32) d1_73 rfl 74 rfl ?_
  refine own_bipush X hx hby (8 : Int32) d1_74 rfl 76 rfl ?_
  have c76 : ¬ (12 : Int32) = (8 : Int32) := by decide
  refine own_icmp_ne X hx hby d1_76 83 79 (by decide) rfl (fun _ => ?_) (fun q => absurd q c76)
  refine own_iloadN X hx hby (12 : Int32) d1_83 rfl 84 rfl ?_
  refine own_bipush X hx hby (9 : Int32) d1_84 rfl 86 rfl ?_
  have c86 : ¬ (12 : Int32) = (9 : Int32) := by decide
  refine own_icmp_ne X hx hby d1_86 93 89 (by decide) rfl (fun _ => ?_) (fun q => absurd q c86)
  refine own_iloadN X hx hby (12 : Int32) d1_93 rfl 94 rfl ?_
  refine own_bipush X hx hby (10 : Int32) d1_94 rfl 96 rfl ?_
  have c96 : ¬ (12 : Int32) = (10 : Int32) := by decide
  refine own_icmp_ne X hx hby d1_96 103 99 (by decide) rfl (fun _ => ?_) (fun q => absurd q c96)
  refine own_iloadN X hx hby (12 : Int32) d1_103 rfl 104 rfl ?_
  refine own_bipush X hx hby (11 : Int32) d1_104 rfl 106 rfl ?_
  have c106 : ¬ (12 : Int32) = (11 : Int32) := by decide
  refine own_icmp_ne X hx hby d1_106 113 109 (by decide) rfl (fun _ => ?_) (fun q => absurd q c106)
  refine own_iloadN X hx hby (12 : Int32) d1_113 rfl 114 rfl ?_
  refine own_bipush X hx hby (12 : Int32) d1_114 rfl 116 rfl ?_
  have c116 : (12 : Int32) = (12 : Int32) := by decide
  refine own_icmp_ne X hx hby d1_116 123 119 (by decide) rfl (fun q => absurd c116 q) (fun _ => ?_)
  refine own_getS X hx hby hZ hown (host := "") (Or.inl (hw _ (List.mem_of_getElem? (i := 54) rfl))) Via.refl eT S_GET d1_119 122 rfl ?_
  intro T119 X eT
  refine own_retA X hx hby hret hlk rfl rfl rfl d1_122 (by decide) (by decide) ?_
  rw [eT]
  exact ⟨rfl, N, rfl⟩
theorem ef_1_13  (m : MethodId) : entryFrame m #[(.int (13 : Int32))] 1 = mkF m 0 #[.val (.int (13 : Int32))] [] := by first | (simp [entryFrame, mkF, argsToLocals, Value.category]; done) | rfl
def Q1_13 (Z : State) (u_KEYS : Addr) (h0 : Heap) (n0 : Nat) (v : Option Value) (h : Heap) (L : List Loc) : Prop := v = some (.ref u_KEYS) ∧ Fr n0 L ∧ h = h0
set_option maxRecDepth 65536 in
set_option maxHeartbeats 40000000 in
theorem rm1_13 (l : Launch) (Z : State) (a0 : Array Value) (hw : ∀ d ∈ tables_1, d.before a0 Z = true) (u_KEYS : Addr) (h0 : Heap) (n0 : Nat) (Zs : n0 ≤ h0.size) (S_KEYS : Sta Z h0 "com/example/intrcom/intrcom/Command" "KEYS" "Lcom/example/intrcom/intrcom/Command;" (.ref u_KEYS)) :
    Met1 l Z (⟨"com/example/intrcom/intrcom/CommandIsAnswerPinLaw", "pick", "(I)Lcom/example/intrcom/intrcom/Command;"⟩ : MethodName) method_2_code 1 (some (.object "com/example/intrcom/intrcom/Command")) ({ frames := 0, cells := 0, slots := 0, locals := 0 } : Room) #[(.int (13 : Int32))] h0 (Q1_13 Z u_KEYS h0 n0) := by
  refine own_met_of (plainFor_of_name pn_1) (ef_1_13 ) ?_
  intro p e s m below meth c s₁ X hx hby hml hZ hown hnm hret hlk eT
  have hown : s.vm.findClass "com/example/intrcom/intrcom/CommandIsAnswerPinLaw" = some m.cls := hown
  have N := Fr.nil n0
  refine own_iloadN X hx hby (13 : Int32) d1_0 rfl 1 rfl ?_
  have c1 : ¬ (13 : Int32) = (0 : Int32) := by decide
  refine own_if_ne X hx hby d1_1 8 4 (by decide) rfl (fun _ => ?_) (fun q => absurd q c1)
  refine own_iloadN X hx hby (13 : Int32) d1_8 rfl 9 rfl ?_
  refine own_iconst X hx hby (1 : Int32) d1_9 rfl 10 rfl ?_
  have c10 : ¬ (13 : Int32) = (1 : Int32) := by decide
  refine own_icmp_ne X hx hby d1_10 17 13 (by decide) rfl (fun _ => ?_) (fun q => absurd q c10)
  refine own_iloadN X hx hby (13 : Int32) d1_17 rfl 18 rfl ?_
  refine own_iconst X hx hby (2 : Int32) d1_18 rfl 19 rfl ?_
  have c19 : ¬ (13 : Int32) = (2 : Int32) := by decide
  refine own_icmp_ne X hx hby d1_19 26 22 (by decide) rfl (fun _ => ?_) (fun q => absurd q c19)
  refine own_iloadN X hx hby (13 : Int32) d1_26 rfl 27 rfl ?_
  refine own_iconst X hx hby (3 : Int32) d1_27 rfl 28 rfl ?_
  have c28 : ¬ (13 : Int32) = (3 : Int32) := by decide
  refine own_icmp_ne X hx hby d1_28 35 31 (by decide) rfl (fun _ => ?_) (fun q => absurd q c28)
  refine own_iloadN X hx hby (13 : Int32) d1_35 rfl 36 rfl ?_
  refine own_iconst X hx hby (4 : Int32) d1_36 rfl 37 rfl ?_
  have c37 : ¬ (13 : Int32) = (4 : Int32) := by decide
  refine own_icmp_ne X hx hby d1_37 44 40 (by decide) rfl (fun _ => ?_) (fun q => absurd q c37)
  refine own_iloadN X hx hby (13 : Int32) d1_44 rfl 45 rfl ?_
  refine own_iconst X hx hby (5 : Int32) d1_45 rfl 46 rfl ?_
  have c46 : ¬ (13 : Int32) = (5 : Int32) := by decide
  refine own_icmp_ne X hx hby d1_46 53 49 (by decide) rfl (fun _ => ?_) (fun q => absurd q c46)
  refine own_iloadN X hx hby (13 : Int32) d1_53 rfl 54 rfl ?_
  refine own_bipush X hx hby (6 : Int32) d1_54 rfl 56 rfl ?_
  have c56 : ¬ (13 : Int32) = (6 : Int32) := by decide
  refine own_icmp_ne X hx hby d1_56 63 59 (by decide) rfl (fun _ => ?_) (fun q => absurd q c56)
  refine own_iloadN X hx hby (13 : Int32) d1_63 rfl 64 rfl ?_
  refine own_bipush X hx hby (7 : Int32) d1_64 rfl 66 rfl ?_
  have c66 : ¬ (13 : Int32) = (7 : Int32) := by decide
  refine own_icmp_ne X hx hby d1_66 73 69 (by decide) rfl (fun _ => ?_) (fun q => absurd q c66)
  refine own_iloadN X hx hby (13 : Int32) d1_73 rfl 74 rfl ?_
  refine own_bipush X hx hby (8 : Int32) d1_74 rfl 76 rfl ?_
  have c76 : ¬ (13 : Int32) = (8 : Int32) := by decide
  refine own_icmp_ne X hx hby d1_76 83 79 (by decide) rfl (fun _ => ?_) (fun q => absurd q c76)
  refine own_iloadN X hx hby (13 : Int32) d1_83 rfl 84 rfl ?_
  refine own_bipush X hx hby (9 : Int32) d1_84 rfl 86 rfl ?_
  have c86 : ¬ (13 : Int32) = (9 : Int32) := by decide
  refine own_icmp_ne X hx hby d1_86 93 89 (by decide) rfl (fun _ => ?_) (fun q => absurd q c86)
  refine own_iloadN X hx hby (13 : Int32) d1_93 rfl 94 rfl ?_
  refine own_bipush X hx hby (10 : Int32) d1_94 rfl 96 rfl ?_
  have c96 : ¬ (13 : Int32) = (10 : Int32) := by decide
  refine own_icmp_ne X hx hby d1_96 103 99 (by decide) rfl (fun _ => ?_) (fun q => absurd q c96)
  refine own_iloadN X hx hby (13 : Int32) d1_103 rfl 104 rfl ?_
  refine own_bipush X hx hby (11 : Int32) d1_104 rfl 106 rfl ?_
  have c106 : ¬ (13 : Int32) = (11 : Int32) := by decide
  refine own_icmp_ne X hx hby d1_106 113 109 (by decide) rfl (fun _ => ?_) (fun q => absurd q c106)
  refine own_iloadN X hx hby (13 : Int32) d1_113 rfl 114 rfl ?_
  refine own_bipush X hx hby (12 : Int32) d1_114 rfl 116 rfl ?_
  have c116 : ¬ (13 : Int32) = (12 : Int32) := by decide
  refine own_icmp_ne X hx hby d1_116 123 119 (by decide) rfl (fun _ => ?_) (fun q => absurd q c116)
  refine own_iloadN X hx hby (13 : Int32) d1_123 rfl 124 rfl ?_
  refine own_bipush X hx hby (13 : Int32) d1_124 rfl 126 rfl ?_
  have c126 : (13 : Int32) = (13 : Int32) := by decide
  refine own_icmp_ne X hx hby d1_126 133 129 (by decide) rfl (fun q => absurd c126 q) (fun _ => ?_)
  refine own_getS X hx hby hZ hown (host := "") (Or.inl (hw _ (List.mem_of_getElem? (i := 56) rfl))) Via.refl eT S_KEYS d1_129 132 rfl ?_
  intro T129 X eT
  refine own_retA X hx hby hret hlk rfl rfl rfl d1_132 (by decide) (by decide) ?_
  rw [eT]
  exact ⟨rfl, N, rfl⟩
theorem ef_1_14  (m : MethodId) : entryFrame m #[(.int (14 : Int32))] 1 = mkF m 0 #[.val (.int (14 : Int32))] [] := by first | (simp [entryFrame, mkF, argsToLocals, Value.category]; done) | rfl
def Q1_14 (Z : State) (u_WATCH : Addr) (h0 : Heap) (n0 : Nat) (v : Option Value) (h : Heap) (L : List Loc) : Prop := v = some (.ref u_WATCH) ∧ Fr n0 L ∧ h = h0
set_option maxRecDepth 65536 in
set_option maxHeartbeats 40000000 in
theorem rm1_14 (l : Launch) (Z : State) (a0 : Array Value) (hw : ∀ d ∈ tables_1, d.before a0 Z = true) (u_WATCH : Addr) (h0 : Heap) (n0 : Nat) (Zs : n0 ≤ h0.size) (S_WATCH : Sta Z h0 "com/example/intrcom/intrcom/Command" "WATCH" "Lcom/example/intrcom/intrcom/Command;" (.ref u_WATCH)) :
    Met1 l Z (⟨"com/example/intrcom/intrcom/CommandIsAnswerPinLaw", "pick", "(I)Lcom/example/intrcom/intrcom/Command;"⟩ : MethodName) method_2_code 1 (some (.object "com/example/intrcom/intrcom/Command")) ({ frames := 0, cells := 0, slots := 0, locals := 0 } : Room) #[(.int (14 : Int32))] h0 (Q1_14 Z u_WATCH h0 n0) := by
  refine own_met_of (plainFor_of_name pn_1) (ef_1_14 ) ?_
  intro p e s m below meth c s₁ X hx hby hml hZ hown hnm hret hlk eT
  have hown : s.vm.findClass "com/example/intrcom/intrcom/CommandIsAnswerPinLaw" = some m.cls := hown
  have N := Fr.nil n0
  refine own_iloadN X hx hby (14 : Int32) d1_0 rfl 1 rfl ?_
  have c1 : ¬ (14 : Int32) = (0 : Int32) := by decide
  refine own_if_ne X hx hby d1_1 8 4 (by decide) rfl (fun _ => ?_) (fun q => absurd q c1)
  refine own_iloadN X hx hby (14 : Int32) d1_8 rfl 9 rfl ?_
  refine own_iconst X hx hby (1 : Int32) d1_9 rfl 10 rfl ?_
  have c10 : ¬ (14 : Int32) = (1 : Int32) := by decide
  refine own_icmp_ne X hx hby d1_10 17 13 (by decide) rfl (fun _ => ?_) (fun q => absurd q c10)
  refine own_iloadN X hx hby (14 : Int32) d1_17 rfl 18 rfl ?_
  refine own_iconst X hx hby (2 : Int32) d1_18 rfl 19 rfl ?_
  have c19 : ¬ (14 : Int32) = (2 : Int32) := by decide
  refine own_icmp_ne X hx hby d1_19 26 22 (by decide) rfl (fun _ => ?_) (fun q => absurd q c19)
  refine own_iloadN X hx hby (14 : Int32) d1_26 rfl 27 rfl ?_
  refine own_iconst X hx hby (3 : Int32) d1_27 rfl 28 rfl ?_
  have c28 : ¬ (14 : Int32) = (3 : Int32) := by decide
  refine own_icmp_ne X hx hby d1_28 35 31 (by decide) rfl (fun _ => ?_) (fun q => absurd q c28)
  refine own_iloadN X hx hby (14 : Int32) d1_35 rfl 36 rfl ?_
  refine own_iconst X hx hby (4 : Int32) d1_36 rfl 37 rfl ?_
  have c37 : ¬ (14 : Int32) = (4 : Int32) := by decide
  refine own_icmp_ne X hx hby d1_37 44 40 (by decide) rfl (fun _ => ?_) (fun q => absurd q c37)
  refine own_iloadN X hx hby (14 : Int32) d1_44 rfl 45 rfl ?_
  refine own_iconst X hx hby (5 : Int32) d1_45 rfl 46 rfl ?_
  have c46 : ¬ (14 : Int32) = (5 : Int32) := by decide
  refine own_icmp_ne X hx hby d1_46 53 49 (by decide) rfl (fun _ => ?_) (fun q => absurd q c46)
  refine own_iloadN X hx hby (14 : Int32) d1_53 rfl 54 rfl ?_
  refine own_bipush X hx hby (6 : Int32) d1_54 rfl 56 rfl ?_
  have c56 : ¬ (14 : Int32) = (6 : Int32) := by decide
  refine own_icmp_ne X hx hby d1_56 63 59 (by decide) rfl (fun _ => ?_) (fun q => absurd q c56)
  refine own_iloadN X hx hby (14 : Int32) d1_63 rfl 64 rfl ?_
  refine own_bipush X hx hby (7 : Int32) d1_64 rfl 66 rfl ?_
  have c66 : ¬ (14 : Int32) = (7 : Int32) := by decide
  refine own_icmp_ne X hx hby d1_66 73 69 (by decide) rfl (fun _ => ?_) (fun q => absurd q c66)
  refine own_iloadN X hx hby (14 : Int32) d1_73 rfl 74 rfl ?_
  refine own_bipush X hx hby (8 : Int32) d1_74 rfl 76 rfl ?_
  have c76 : ¬ (14 : Int32) = (8 : Int32) := by decide
  refine own_icmp_ne X hx hby d1_76 83 79 (by decide) rfl (fun _ => ?_) (fun q => absurd q c76)
  refine own_iloadN X hx hby (14 : Int32) d1_83 rfl 84 rfl ?_
  refine own_bipush X hx hby (9 : Int32) d1_84 rfl 86 rfl ?_
  have c86 : ¬ (14 : Int32) = (9 : Int32) := by decide
  refine own_icmp_ne X hx hby d1_86 93 89 (by decide) rfl (fun _ => ?_) (fun q => absurd q c86)
  refine own_iloadN X hx hby (14 : Int32) d1_93 rfl 94 rfl ?_
  refine own_bipush X hx hby (10 : Int32) d1_94 rfl 96 rfl ?_
  have c96 : ¬ (14 : Int32) = (10 : Int32) := by decide
  refine own_icmp_ne X hx hby d1_96 103 99 (by decide) rfl (fun _ => ?_) (fun q => absurd q c96)
  refine own_iloadN X hx hby (14 : Int32) d1_103 rfl 104 rfl ?_
  refine own_bipush X hx hby (11 : Int32) d1_104 rfl 106 rfl ?_
  have c106 : ¬ (14 : Int32) = (11 : Int32) := by decide
  refine own_icmp_ne X hx hby d1_106 113 109 (by decide) rfl (fun _ => ?_) (fun q => absurd q c106)
  refine own_iloadN X hx hby (14 : Int32) d1_113 rfl 114 rfl ?_
  refine own_bipush X hx hby (12 : Int32) d1_114 rfl 116 rfl ?_
  have c116 : ¬ (14 : Int32) = (12 : Int32) := by decide
  refine own_icmp_ne X hx hby d1_116 123 119 (by decide) rfl (fun _ => ?_) (fun q => absurd q c116)
  refine own_iloadN X hx hby (14 : Int32) d1_123 rfl 124 rfl ?_
  refine own_bipush X hx hby (13 : Int32) d1_124 rfl 126 rfl ?_
  have c126 : ¬ (14 : Int32) = (13 : Int32) := by decide
  refine own_icmp_ne X hx hby d1_126 133 129 (by decide) rfl (fun _ => ?_) (fun q => absurd q c126)
  refine own_iloadN X hx hby (14 : Int32) d1_133 rfl 134 rfl ?_
  refine own_bipush X hx hby (14 : Int32) d1_134 rfl 136 rfl ?_
  have c136 : (14 : Int32) = (14 : Int32) := by decide
  refine own_icmp_ne X hx hby d1_136 143 139 (by decide) rfl (fun q => absurd c136 q) (fun _ => ?_)
  refine own_getS X hx hby hZ hown (host := "") (Or.inl (hw _ (List.mem_of_getElem? (i := 42) rfl))) Via.refl eT S_WATCH d1_139 142 rfl ?_
  intro T139 X eT
  refine own_retA X hx hby hret hlk rfl rfl rfl d1_142 (by decide) (by decide) ?_
  rw [eT]
  exact ⟨rfl, N, rfl⟩
theorem ef_1_15  (m : MethodId) : entryFrame m #[(.int (15 : Int32))] 1 = mkF m 0 #[.val (.int (15 : Int32))] [] := by first | (simp [entryFrame, mkF, argsToLocals, Value.category]; done) | rfl
def Q1_15 (Z : State) (u_WAIT : Addr) (h0 : Heap) (n0 : Nat) (v : Option Value) (h : Heap) (L : List Loc) : Prop := v = some (.ref u_WAIT) ∧ Fr n0 L ∧ h = h0
set_option maxRecDepth 65536 in
set_option maxHeartbeats 40000000 in
theorem rm1_15 (l : Launch) (Z : State) (a0 : Array Value) (hw : ∀ d ∈ tables_1, d.before a0 Z = true) (u_WAIT : Addr) (h0 : Heap) (n0 : Nat) (Zs : n0 ≤ h0.size) (S_WAIT : Sta Z h0 "com/example/intrcom/intrcom/Command" "WAIT" "Lcom/example/intrcom/intrcom/Command;" (.ref u_WAIT)) :
    Met1 l Z (⟨"com/example/intrcom/intrcom/CommandIsAnswerPinLaw", "pick", "(I)Lcom/example/intrcom/intrcom/Command;"⟩ : MethodName) method_2_code 1 (some (.object "com/example/intrcom/intrcom/Command")) ({ frames := 0, cells := 0, slots := 0, locals := 0 } : Room) #[(.int (15 : Int32))] h0 (Q1_15 Z u_WAIT h0 n0) := by
  refine own_met_of (plainFor_of_name pn_1) (ef_1_15 ) ?_
  intro p e s m below meth c s₁ X hx hby hml hZ hown hnm hret hlk eT
  have hown : s.vm.findClass "com/example/intrcom/intrcom/CommandIsAnswerPinLaw" = some m.cls := hown
  have N := Fr.nil n0
  refine own_iloadN X hx hby (15 : Int32) d1_0 rfl 1 rfl ?_
  have c1 : ¬ (15 : Int32) = (0 : Int32) := by decide
  refine own_if_ne X hx hby d1_1 8 4 (by decide) rfl (fun _ => ?_) (fun q => absurd q c1)
  refine own_iloadN X hx hby (15 : Int32) d1_8 rfl 9 rfl ?_
  refine own_iconst X hx hby (1 : Int32) d1_9 rfl 10 rfl ?_
  have c10 : ¬ (15 : Int32) = (1 : Int32) := by decide
  refine own_icmp_ne X hx hby d1_10 17 13 (by decide) rfl (fun _ => ?_) (fun q => absurd q c10)
  refine own_iloadN X hx hby (15 : Int32) d1_17 rfl 18 rfl ?_
  refine own_iconst X hx hby (2 : Int32) d1_18 rfl 19 rfl ?_
  have c19 : ¬ (15 : Int32) = (2 : Int32) := by decide
  refine own_icmp_ne X hx hby d1_19 26 22 (by decide) rfl (fun _ => ?_) (fun q => absurd q c19)
  refine own_iloadN X hx hby (15 : Int32) d1_26 rfl 27 rfl ?_
  refine own_iconst X hx hby (3 : Int32) d1_27 rfl 28 rfl ?_
  have c28 : ¬ (15 : Int32) = (3 : Int32) := by decide
  refine own_icmp_ne X hx hby d1_28 35 31 (by decide) rfl (fun _ => ?_) (fun q => absurd q c28)
  refine own_iloadN X hx hby (15 : Int32) d1_35 rfl 36 rfl ?_
  refine own_iconst X hx hby (4 : Int32) d1_36 rfl 37 rfl ?_
  have c37 : ¬ (15 : Int32) = (4 : Int32) := by decide
  refine own_icmp_ne X hx hby d1_37 44 40 (by decide) rfl (fun _ => ?_) (fun q => absurd q c37)
  refine own_iloadN X hx hby (15 : Int32) d1_44 rfl 45 rfl ?_
  refine own_iconst X hx hby (5 : Int32) d1_45 rfl 46 rfl ?_
  have c46 : ¬ (15 : Int32) = (5 : Int32) := by decide
  refine own_icmp_ne X hx hby d1_46 53 49 (by decide) rfl (fun _ => ?_) (fun q => absurd q c46)
  refine own_iloadN X hx hby (15 : Int32) d1_53 rfl 54 rfl ?_
  refine own_bipush X hx hby (6 : Int32) d1_54 rfl 56 rfl ?_
  have c56 : ¬ (15 : Int32) = (6 : Int32) := by decide
  refine own_icmp_ne X hx hby d1_56 63 59 (by decide) rfl (fun _ => ?_) (fun q => absurd q c56)
  refine own_iloadN X hx hby (15 : Int32) d1_63 rfl 64 rfl ?_
  refine own_bipush X hx hby (7 : Int32) d1_64 rfl 66 rfl ?_
  have c66 : ¬ (15 : Int32) = (7 : Int32) := by decide
  refine own_icmp_ne X hx hby d1_66 73 69 (by decide) rfl (fun _ => ?_) (fun q => absurd q c66)
  refine own_iloadN X hx hby (15 : Int32) d1_73 rfl 74 rfl ?_
  refine own_bipush X hx hby (8 : Int32) d1_74 rfl 76 rfl ?_
  have c76 : ¬ (15 : Int32) = (8 : Int32) := by decide
  refine own_icmp_ne X hx hby d1_76 83 79 (by decide) rfl (fun _ => ?_) (fun q => absurd q c76)
  refine own_iloadN X hx hby (15 : Int32) d1_83 rfl 84 rfl ?_
  refine own_bipush X hx hby (9 : Int32) d1_84 rfl 86 rfl ?_
  have c86 : ¬ (15 : Int32) = (9 : Int32) := by decide
  refine own_icmp_ne X hx hby d1_86 93 89 (by decide) rfl (fun _ => ?_) (fun q => absurd q c86)
  refine own_iloadN X hx hby (15 : Int32) d1_93 rfl 94 rfl ?_
  refine own_bipush X hx hby (10 : Int32) d1_94 rfl 96 rfl ?_
  have c96 : ¬ (15 : Int32) = (10 : Int32) := by decide
  refine own_icmp_ne X hx hby d1_96 103 99 (by decide) rfl (fun _ => ?_) (fun q => absurd q c96)
  refine own_iloadN X hx hby (15 : Int32) d1_103 rfl 104 rfl ?_
  refine own_bipush X hx hby (11 : Int32) d1_104 rfl 106 rfl ?_
  have c106 : ¬ (15 : Int32) = (11 : Int32) := by decide
  refine own_icmp_ne X hx hby d1_106 113 109 (by decide) rfl (fun _ => ?_) (fun q => absurd q c106)
  refine own_iloadN X hx hby (15 : Int32) d1_113 rfl 114 rfl ?_
  refine own_bipush X hx hby (12 : Int32) d1_114 rfl 116 rfl ?_
  have c116 : ¬ (15 : Int32) = (12 : Int32) := by decide
  refine own_icmp_ne X hx hby d1_116 123 119 (by decide) rfl (fun _ => ?_) (fun q => absurd q c116)
  refine own_iloadN X hx hby (15 : Int32) d1_123 rfl 124 rfl ?_
  refine own_bipush X hx hby (13 : Int32) d1_124 rfl 126 rfl ?_
  have c126 : ¬ (15 : Int32) = (13 : Int32) := by decide
  refine own_icmp_ne X hx hby d1_126 133 129 (by decide) rfl (fun _ => ?_) (fun q => absurd q c126)
  refine own_iloadN X hx hby (15 : Int32) d1_133 rfl 134 rfl ?_
  refine own_bipush X hx hby (14 : Int32) d1_134 rfl 136 rfl ?_
  have c136 : ¬ (15 : Int32) = (14 : Int32) := by decide
  refine own_icmp_ne X hx hby d1_136 143 139 (by decide) rfl (fun _ => ?_) (fun q => absurd q c136)
  refine own_iloadN X hx hby (15 : Int32) d1_143 rfl 144 rfl ?_
  refine own_bipush X hx hby (15 : Int32) d1_144 rfl 146 rfl ?_
  have c146 : (15 : Int32) = (15 : Int32) := by decide
  refine own_icmp_ne X hx hby d1_146 153 149 (by decide) rfl (fun q => absurd c146 q) (fun _ => ?_)
  refine own_getS X hx hby hZ hown (host := "") (Or.inl (hw _ (List.mem_of_getElem? (i := 26) rfl))) Via.refl eT S_WAIT d1_149 152 rfl ?_
  intro T149 X eT
  refine own_retA X hx hby hret hlk rfl rfl rfl d1_152 (by decide) (by decide) ?_
  rw [eT]
  exact ⟨rfl, N, rfl⟩
theorem ef_1_16  (m : MethodId) : entryFrame m #[(.int (16 : Int32))] 1 = mkF m 0 #[.val (.int (16 : Int32))] [] := by first | (simp [entryFrame, mkF, argsToLocals, Value.category]; done) | rfl
def Q1_16 (Z : State) (u_RESTART : Addr) (h0 : Heap) (n0 : Nat) (v : Option Value) (h : Heap) (L : List Loc) : Prop := v = some (.ref u_RESTART) ∧ Fr n0 L ∧ h = h0
set_option maxRecDepth 65536 in
set_option maxHeartbeats 40000000 in
theorem rm1_16 (l : Launch) (Z : State) (a0 : Array Value) (hw : ∀ d ∈ tables_1, d.before a0 Z = true) (u_RESTART : Addr) (h0 : Heap) (n0 : Nat) (Zs : n0 ≤ h0.size) (S_RESTART : Sta Z h0 "com/example/intrcom/intrcom/Command" "RESTART" "Lcom/example/intrcom/intrcom/Command;" (.ref u_RESTART)) :
    Met1 l Z (⟨"com/example/intrcom/intrcom/CommandIsAnswerPinLaw", "pick", "(I)Lcom/example/intrcom/intrcom/Command;"⟩ : MethodName) method_2_code 1 (some (.object "com/example/intrcom/intrcom/Command")) ({ frames := 0, cells := 0, slots := 0, locals := 0 } : Room) #[(.int (16 : Int32))] h0 (Q1_16 Z u_RESTART h0 n0) := by
  refine own_met_of (plainFor_of_name pn_1) (ef_1_16 ) ?_
  intro p e s m below meth c s₁ X hx hby hml hZ hown hnm hret hlk eT
  have hown : s.vm.findClass "com/example/intrcom/intrcom/CommandIsAnswerPinLaw" = some m.cls := hown
  have N := Fr.nil n0
  refine own_iloadN X hx hby (16 : Int32) d1_0 rfl 1 rfl ?_
  have c1 : ¬ (16 : Int32) = (0 : Int32) := by decide
  refine own_if_ne X hx hby d1_1 8 4 (by decide) rfl (fun _ => ?_) (fun q => absurd q c1)
  refine own_iloadN X hx hby (16 : Int32) d1_8 rfl 9 rfl ?_
  refine own_iconst X hx hby (1 : Int32) d1_9 rfl 10 rfl ?_
  have c10 : ¬ (16 : Int32) = (1 : Int32) := by decide
  refine own_icmp_ne X hx hby d1_10 17 13 (by decide) rfl (fun _ => ?_) (fun q => absurd q c10)
  refine own_iloadN X hx hby (16 : Int32) d1_17 rfl 18 rfl ?_
  refine own_iconst X hx hby (2 : Int32) d1_18 rfl 19 rfl ?_
  have c19 : ¬ (16 : Int32) = (2 : Int32) := by decide
  refine own_icmp_ne X hx hby d1_19 26 22 (by decide) rfl (fun _ => ?_) (fun q => absurd q c19)
  refine own_iloadN X hx hby (16 : Int32) d1_26 rfl 27 rfl ?_
  refine own_iconst X hx hby (3 : Int32) d1_27 rfl 28 rfl ?_
  have c28 : ¬ (16 : Int32) = (3 : Int32) := by decide
  refine own_icmp_ne X hx hby d1_28 35 31 (by decide) rfl (fun _ => ?_) (fun q => absurd q c28)
  refine own_iloadN X hx hby (16 : Int32) d1_35 rfl 36 rfl ?_
  refine own_iconst X hx hby (4 : Int32) d1_36 rfl 37 rfl ?_
  have c37 : ¬ (16 : Int32) = (4 : Int32) := by decide
  refine own_icmp_ne X hx hby d1_37 44 40 (by decide) rfl (fun _ => ?_) (fun q => absurd q c37)
  refine own_iloadN X hx hby (16 : Int32) d1_44 rfl 45 rfl ?_
  refine own_iconst X hx hby (5 : Int32) d1_45 rfl 46 rfl ?_
  have c46 : ¬ (16 : Int32) = (5 : Int32) := by decide
  refine own_icmp_ne X hx hby d1_46 53 49 (by decide) rfl (fun _ => ?_) (fun q => absurd q c46)
  refine own_iloadN X hx hby (16 : Int32) d1_53 rfl 54 rfl ?_
  refine own_bipush X hx hby (6 : Int32) d1_54 rfl 56 rfl ?_
  have c56 : ¬ (16 : Int32) = (6 : Int32) := by decide
  refine own_icmp_ne X hx hby d1_56 63 59 (by decide) rfl (fun _ => ?_) (fun q => absurd q c56)
  refine own_iloadN X hx hby (16 : Int32) d1_63 rfl 64 rfl ?_
  refine own_bipush X hx hby (7 : Int32) d1_64 rfl 66 rfl ?_
  have c66 : ¬ (16 : Int32) = (7 : Int32) := by decide
  refine own_icmp_ne X hx hby d1_66 73 69 (by decide) rfl (fun _ => ?_) (fun q => absurd q c66)
  refine own_iloadN X hx hby (16 : Int32) d1_73 rfl 74 rfl ?_
  refine own_bipush X hx hby (8 : Int32) d1_74 rfl 76 rfl ?_
  have c76 : ¬ (16 : Int32) = (8 : Int32) := by decide
  refine own_icmp_ne X hx hby d1_76 83 79 (by decide) rfl (fun _ => ?_) (fun q => absurd q c76)
  refine own_iloadN X hx hby (16 : Int32) d1_83 rfl 84 rfl ?_
  refine own_bipush X hx hby (9 : Int32) d1_84 rfl 86 rfl ?_
  have c86 : ¬ (16 : Int32) = (9 : Int32) := by decide
  refine own_icmp_ne X hx hby d1_86 93 89 (by decide) rfl (fun _ => ?_) (fun q => absurd q c86)
  refine own_iloadN X hx hby (16 : Int32) d1_93 rfl 94 rfl ?_
  refine own_bipush X hx hby (10 : Int32) d1_94 rfl 96 rfl ?_
  have c96 : ¬ (16 : Int32) = (10 : Int32) := by decide
  refine own_icmp_ne X hx hby d1_96 103 99 (by decide) rfl (fun _ => ?_) (fun q => absurd q c96)
  refine own_iloadN X hx hby (16 : Int32) d1_103 rfl 104 rfl ?_
  refine own_bipush X hx hby (11 : Int32) d1_104 rfl 106 rfl ?_
  have c106 : ¬ (16 : Int32) = (11 : Int32) := by decide
  refine own_icmp_ne X hx hby d1_106 113 109 (by decide) rfl (fun _ => ?_) (fun q => absurd q c106)
  refine own_iloadN X hx hby (16 : Int32) d1_113 rfl 114 rfl ?_
  refine own_bipush X hx hby (12 : Int32) d1_114 rfl 116 rfl ?_
  have c116 : ¬ (16 : Int32) = (12 : Int32) := by decide
  refine own_icmp_ne X hx hby d1_116 123 119 (by decide) rfl (fun _ => ?_) (fun q => absurd q c116)
  refine own_iloadN X hx hby (16 : Int32) d1_123 rfl 124 rfl ?_
  refine own_bipush X hx hby (13 : Int32) d1_124 rfl 126 rfl ?_
  have c126 : ¬ (16 : Int32) = (13 : Int32) := by decide
  refine own_icmp_ne X hx hby d1_126 133 129 (by decide) rfl (fun _ => ?_) (fun q => absurd q c126)
  refine own_iloadN X hx hby (16 : Int32) d1_133 rfl 134 rfl ?_
  refine own_bipush X hx hby (14 : Int32) d1_134 rfl 136 rfl ?_
  have c136 : ¬ (16 : Int32) = (14 : Int32) := by decide
  refine own_icmp_ne X hx hby d1_136 143 139 (by decide) rfl (fun _ => ?_) (fun q => absurd q c136)
  refine own_iloadN X hx hby (16 : Int32) d1_143 rfl 144 rfl ?_
  refine own_bipush X hx hby (15 : Int32) d1_144 rfl 146 rfl ?_
  have c146 : ¬ (16 : Int32) = (15 : Int32) := by decide
  refine own_icmp_ne X hx hby d1_146 153 149 (by decide) rfl (fun _ => ?_) (fun q => absurd q c146)
  refine own_iloadN X hx hby (16 : Int32) d1_153 rfl 154 rfl ?_
  refine own_bipush X hx hby (16 : Int32) d1_154 rfl 156 rfl ?_
  have c156 : (16 : Int32) = (16 : Int32) := by decide
  refine own_icmp_ne X hx hby d1_156 163 159 (by decide) rfl (fun q => absurd c156 q) (fun _ => ?_)
  refine own_getS X hx hby hZ hown (host := "") (Or.inl (hw _ (List.mem_of_getElem? (i := 48) rfl))) Via.refl eT S_RESTART d1_159 162 rfl ?_
  intro T159 X eT
  refine own_retA X hx hby hret hlk rfl rfl rfl d1_162 (by decide) (by decide) ?_
  rw [eT]
  exact ⟨rfl, N, rfl⟩
theorem ef_1_17  (m : MethodId) : entryFrame m #[(.int (17 : Int32))] 1 = mkF m 0 #[.val (.int (17 : Int32))] [] := by first | (simp [entryFrame, mkF, argsToLocals, Value.category]; done) | rfl
def Q1_17 (Z : State) (u_STOP : Addr) (h0 : Heap) (n0 : Nat) (v : Option Value) (h : Heap) (L : List Loc) : Prop := v = some (.ref u_STOP) ∧ Fr n0 L ∧ h = h0
set_option maxRecDepth 65536 in
set_option maxHeartbeats 40000000 in
theorem rm1_17 (l : Launch) (Z : State) (a0 : Array Value) (hw : ∀ d ∈ tables_1, d.before a0 Z = true) (u_STOP : Addr) (h0 : Heap) (n0 : Nat) (Zs : n0 ≤ h0.size) (S_STOP : Sta Z h0 "com/example/intrcom/intrcom/Command" "STOP" "Lcom/example/intrcom/intrcom/Command;" (.ref u_STOP)) :
    Met1 l Z (⟨"com/example/intrcom/intrcom/CommandIsAnswerPinLaw", "pick", "(I)Lcom/example/intrcom/intrcom/Command;"⟩ : MethodName) method_2_code 1 (some (.object "com/example/intrcom/intrcom/Command")) ({ frames := 0, cells := 0, slots := 0, locals := 0 } : Room) #[(.int (17 : Int32))] h0 (Q1_17 Z u_STOP h0 n0) := by
  refine own_met_of (plainFor_of_name pn_1) (ef_1_17 ) ?_
  intro p e s m below meth c s₁ X hx hby hml hZ hown hnm hret hlk eT
  have hown : s.vm.findClass "com/example/intrcom/intrcom/CommandIsAnswerPinLaw" = some m.cls := hown
  have N := Fr.nil n0
  refine own_iloadN X hx hby (17 : Int32) d1_0 rfl 1 rfl ?_
  have c1 : ¬ (17 : Int32) = (0 : Int32) := by decide
  refine own_if_ne X hx hby d1_1 8 4 (by decide) rfl (fun _ => ?_) (fun q => absurd q c1)
  refine own_iloadN X hx hby (17 : Int32) d1_8 rfl 9 rfl ?_
  refine own_iconst X hx hby (1 : Int32) d1_9 rfl 10 rfl ?_
  have c10 : ¬ (17 : Int32) = (1 : Int32) := by decide
  refine own_icmp_ne X hx hby d1_10 17 13 (by decide) rfl (fun _ => ?_) (fun q => absurd q c10)
  refine own_iloadN X hx hby (17 : Int32) d1_17 rfl 18 rfl ?_
  refine own_iconst X hx hby (2 : Int32) d1_18 rfl 19 rfl ?_
  have c19 : ¬ (17 : Int32) = (2 : Int32) := by decide
  refine own_icmp_ne X hx hby d1_19 26 22 (by decide) rfl (fun _ => ?_) (fun q => absurd q c19)
  refine own_iloadN X hx hby (17 : Int32) d1_26 rfl 27 rfl ?_
  refine own_iconst X hx hby (3 : Int32) d1_27 rfl 28 rfl ?_
  have c28 : ¬ (17 : Int32) = (3 : Int32) := by decide
  refine own_icmp_ne X hx hby d1_28 35 31 (by decide) rfl (fun _ => ?_) (fun q => absurd q c28)
  refine own_iloadN X hx hby (17 : Int32) d1_35 rfl 36 rfl ?_
  refine own_iconst X hx hby (4 : Int32) d1_36 rfl 37 rfl ?_
  have c37 : ¬ (17 : Int32) = (4 : Int32) := by decide
  refine own_icmp_ne X hx hby d1_37 44 40 (by decide) rfl (fun _ => ?_) (fun q => absurd q c37)
  refine own_iloadN X hx hby (17 : Int32) d1_44 rfl 45 rfl ?_
  refine own_iconst X hx hby (5 : Int32) d1_45 rfl 46 rfl ?_
  have c46 : ¬ (17 : Int32) = (5 : Int32) := by decide
  refine own_icmp_ne X hx hby d1_46 53 49 (by decide) rfl (fun _ => ?_) (fun q => absurd q c46)
  refine own_iloadN X hx hby (17 : Int32) d1_53 rfl 54 rfl ?_
  refine own_bipush X hx hby (6 : Int32) d1_54 rfl 56 rfl ?_
  have c56 : ¬ (17 : Int32) = (6 : Int32) := by decide
  refine own_icmp_ne X hx hby d1_56 63 59 (by decide) rfl (fun _ => ?_) (fun q => absurd q c56)
  refine own_iloadN X hx hby (17 : Int32) d1_63 rfl 64 rfl ?_
  refine own_bipush X hx hby (7 : Int32) d1_64 rfl 66 rfl ?_
  have c66 : ¬ (17 : Int32) = (7 : Int32) := by decide
  refine own_icmp_ne X hx hby d1_66 73 69 (by decide) rfl (fun _ => ?_) (fun q => absurd q c66)
  refine own_iloadN X hx hby (17 : Int32) d1_73 rfl 74 rfl ?_
  refine own_bipush X hx hby (8 : Int32) d1_74 rfl 76 rfl ?_
  have c76 : ¬ (17 : Int32) = (8 : Int32) := by decide
  refine own_icmp_ne X hx hby d1_76 83 79 (by decide) rfl (fun _ => ?_) (fun q => absurd q c76)
  refine own_iloadN X hx hby (17 : Int32) d1_83 rfl 84 rfl ?_
  refine own_bipush X hx hby (9 : Int32) d1_84 rfl 86 rfl ?_
  have c86 : ¬ (17 : Int32) = (9 : Int32) := by decide
  refine own_icmp_ne X hx hby d1_86 93 89 (by decide) rfl (fun _ => ?_) (fun q => absurd q c86)
  refine own_iloadN X hx hby (17 : Int32) d1_93 rfl 94 rfl ?_
  refine own_bipush X hx hby (10 : Int32) d1_94 rfl 96 rfl ?_
  have c96 : ¬ (17 : Int32) = (10 : Int32) := by decide
  refine own_icmp_ne X hx hby d1_96 103 99 (by decide) rfl (fun _ => ?_) (fun q => absurd q c96)
  refine own_iloadN X hx hby (17 : Int32) d1_103 rfl 104 rfl ?_
  refine own_bipush X hx hby (11 : Int32) d1_104 rfl 106 rfl ?_
  have c106 : ¬ (17 : Int32) = (11 : Int32) := by decide
  refine own_icmp_ne X hx hby d1_106 113 109 (by decide) rfl (fun _ => ?_) (fun q => absurd q c106)
  refine own_iloadN X hx hby (17 : Int32) d1_113 rfl 114 rfl ?_
  refine own_bipush X hx hby (12 : Int32) d1_114 rfl 116 rfl ?_
  have c116 : ¬ (17 : Int32) = (12 : Int32) := by decide
  refine own_icmp_ne X hx hby d1_116 123 119 (by decide) rfl (fun _ => ?_) (fun q => absurd q c116)
  refine own_iloadN X hx hby (17 : Int32) d1_123 rfl 124 rfl ?_
  refine own_bipush X hx hby (13 : Int32) d1_124 rfl 126 rfl ?_
  have c126 : ¬ (17 : Int32) = (13 : Int32) := by decide
  refine own_icmp_ne X hx hby d1_126 133 129 (by decide) rfl (fun _ => ?_) (fun q => absurd q c126)
  refine own_iloadN X hx hby (17 : Int32) d1_133 rfl 134 rfl ?_
  refine own_bipush X hx hby (14 : Int32) d1_134 rfl 136 rfl ?_
  have c136 : ¬ (17 : Int32) = (14 : Int32) := by decide
  refine own_icmp_ne X hx hby d1_136 143 139 (by decide) rfl (fun _ => ?_) (fun q => absurd q c136)
  refine own_iloadN X hx hby (17 : Int32) d1_143 rfl 144 rfl ?_
  refine own_bipush X hx hby (15 : Int32) d1_144 rfl 146 rfl ?_
  have c146 : ¬ (17 : Int32) = (15 : Int32) := by decide
  refine own_icmp_ne X hx hby d1_146 153 149 (by decide) rfl (fun _ => ?_) (fun q => absurd q c146)
  refine own_iloadN X hx hby (17 : Int32) d1_153 rfl 154 rfl ?_
  refine own_bipush X hx hby (16 : Int32) d1_154 rfl 156 rfl ?_
  have c156 : ¬ (17 : Int32) = (16 : Int32) := by decide
  refine own_icmp_ne X hx hby d1_156 163 159 (by decide) rfl (fun _ => ?_) (fun q => absurd q c156)
  refine own_iloadN X hx hby (17 : Int32) d1_163 rfl 164 rfl ?_
  refine own_bipush X hx hby (17 : Int32) d1_164 rfl 166 rfl ?_
  have c166 : (17 : Int32) = (17 : Int32) := by decide
  refine own_icmp_ne X hx hby d1_166 173 169 (by decide) rfl (fun q => absurd c166 q) (fun _ => ?_)
  refine own_getS X hx hby hZ hown (host := "") (Or.inl (hw _ (List.mem_of_getElem? (i := 29) rfl))) Via.refl eT S_STOP d1_169 172 rfl ?_
  intro T169 X eT
  refine own_retA X hx hby hret hlk rfl rfl rfl d1_172 (by decide) (by decide) ?_
  rw [eT]
  exact ⟨rfl, N, rfl⟩
theorem ef_1_18  (m : MethodId) : entryFrame m #[(.int (18 : Int32))] 1 = mkF m 0 #[.val (.int (18 : Int32))] [] := by first | (simp [entryFrame, mkF, argsToLocals, Value.category]; done) | rfl
def Q1_18 (Z : State) (u_START : Addr) (h0 : Heap) (n0 : Nat) (v : Option Value) (h : Heap) (L : List Loc) : Prop := v = some (.ref u_START) ∧ Fr n0 L ∧ h = h0
set_option maxRecDepth 65536 in
set_option maxHeartbeats 40000000 in
theorem rm1_18 (l : Launch) (Z : State) (a0 : Array Value) (hw : ∀ d ∈ tables_1, d.before a0 Z = true) (u_START : Addr) (h0 : Heap) (n0 : Nat) (Zs : n0 ≤ h0.size) (S_START : Sta Z h0 "com/example/intrcom/intrcom/Command" "START" "Lcom/example/intrcom/intrcom/Command;" (.ref u_START)) :
    Met1 l Z (⟨"com/example/intrcom/intrcom/CommandIsAnswerPinLaw", "pick", "(I)Lcom/example/intrcom/intrcom/Command;"⟩ : MethodName) method_2_code 1 (some (.object "com/example/intrcom/intrcom/Command")) ({ frames := 0, cells := 0, slots := 0, locals := 0 } : Room) #[(.int (18 : Int32))] h0 (Q1_18 Z u_START h0 n0) := by
  refine own_met_of (plainFor_of_name pn_1) (ef_1_18 ) ?_
  intro p e s m below meth c s₁ X hx hby hml hZ hown hnm hret hlk eT
  have hown : s.vm.findClass "com/example/intrcom/intrcom/CommandIsAnswerPinLaw" = some m.cls := hown
  have N := Fr.nil n0
  refine own_iloadN X hx hby (18 : Int32) d1_0 rfl 1 rfl ?_
  have c1 : ¬ (18 : Int32) = (0 : Int32) := by decide
  refine own_if_ne X hx hby d1_1 8 4 (by decide) rfl (fun _ => ?_) (fun q => absurd q c1)
  refine own_iloadN X hx hby (18 : Int32) d1_8 rfl 9 rfl ?_
  refine own_iconst X hx hby (1 : Int32) d1_9 rfl 10 rfl ?_
  have c10 : ¬ (18 : Int32) = (1 : Int32) := by decide
  refine own_icmp_ne X hx hby d1_10 17 13 (by decide) rfl (fun _ => ?_) (fun q => absurd q c10)
  refine own_iloadN X hx hby (18 : Int32) d1_17 rfl 18 rfl ?_
  refine own_iconst X hx hby (2 : Int32) d1_18 rfl 19 rfl ?_
  have c19 : ¬ (18 : Int32) = (2 : Int32) := by decide
  refine own_icmp_ne X hx hby d1_19 26 22 (by decide) rfl (fun _ => ?_) (fun q => absurd q c19)
  refine own_iloadN X hx hby (18 : Int32) d1_26 rfl 27 rfl ?_
  refine own_iconst X hx hby (3 : Int32) d1_27 rfl 28 rfl ?_
  have c28 : ¬ (18 : Int32) = (3 : Int32) := by decide
  refine own_icmp_ne X hx hby d1_28 35 31 (by decide) rfl (fun _ => ?_) (fun q => absurd q c28)
  refine own_iloadN X hx hby (18 : Int32) d1_35 rfl 36 rfl ?_
  refine own_iconst X hx hby (4 : Int32) d1_36 rfl 37 rfl ?_
  have c37 : ¬ (18 : Int32) = (4 : Int32) := by decide
  refine own_icmp_ne X hx hby d1_37 44 40 (by decide) rfl (fun _ => ?_) (fun q => absurd q c37)
  refine own_iloadN X hx hby (18 : Int32) d1_44 rfl 45 rfl ?_
  refine own_iconst X hx hby (5 : Int32) d1_45 rfl 46 rfl ?_
  have c46 : ¬ (18 : Int32) = (5 : Int32) := by decide
  refine own_icmp_ne X hx hby d1_46 53 49 (by decide) rfl (fun _ => ?_) (fun q => absurd q c46)
  refine own_iloadN X hx hby (18 : Int32) d1_53 rfl 54 rfl ?_
  refine own_bipush X hx hby (6 : Int32) d1_54 rfl 56 rfl ?_
  have c56 : ¬ (18 : Int32) = (6 : Int32) := by decide
  refine own_icmp_ne X hx hby d1_56 63 59 (by decide) rfl (fun _ => ?_) (fun q => absurd q c56)
  refine own_iloadN X hx hby (18 : Int32) d1_63 rfl 64 rfl ?_
  refine own_bipush X hx hby (7 : Int32) d1_64 rfl 66 rfl ?_
  have c66 : ¬ (18 : Int32) = (7 : Int32) := by decide
  refine own_icmp_ne X hx hby d1_66 73 69 (by decide) rfl (fun _ => ?_) (fun q => absurd q c66)
  refine own_iloadN X hx hby (18 : Int32) d1_73 rfl 74 rfl ?_
  refine own_bipush X hx hby (8 : Int32) d1_74 rfl 76 rfl ?_
  have c76 : ¬ (18 : Int32) = (8 : Int32) := by decide
  refine own_icmp_ne X hx hby d1_76 83 79 (by decide) rfl (fun _ => ?_) (fun q => absurd q c76)
  refine own_iloadN X hx hby (18 : Int32) d1_83 rfl 84 rfl ?_
  refine own_bipush X hx hby (9 : Int32) d1_84 rfl 86 rfl ?_
  have c86 : ¬ (18 : Int32) = (9 : Int32) := by decide
  refine own_icmp_ne X hx hby d1_86 93 89 (by decide) rfl (fun _ => ?_) (fun q => absurd q c86)
  refine own_iloadN X hx hby (18 : Int32) d1_93 rfl 94 rfl ?_
  refine own_bipush X hx hby (10 : Int32) d1_94 rfl 96 rfl ?_
  have c96 : ¬ (18 : Int32) = (10 : Int32) := by decide
  refine own_icmp_ne X hx hby d1_96 103 99 (by decide) rfl (fun _ => ?_) (fun q => absurd q c96)
  refine own_iloadN X hx hby (18 : Int32) d1_103 rfl 104 rfl ?_
  refine own_bipush X hx hby (11 : Int32) d1_104 rfl 106 rfl ?_
  have c106 : ¬ (18 : Int32) = (11 : Int32) := by decide
  refine own_icmp_ne X hx hby d1_106 113 109 (by decide) rfl (fun _ => ?_) (fun q => absurd q c106)
  refine own_iloadN X hx hby (18 : Int32) d1_113 rfl 114 rfl ?_
  refine own_bipush X hx hby (12 : Int32) d1_114 rfl 116 rfl ?_
  have c116 : ¬ (18 : Int32) = (12 : Int32) := by decide
  refine own_icmp_ne X hx hby d1_116 123 119 (by decide) rfl (fun _ => ?_) (fun q => absurd q c116)
  refine own_iloadN X hx hby (18 : Int32) d1_123 rfl 124 rfl ?_
  refine own_bipush X hx hby (13 : Int32) d1_124 rfl 126 rfl ?_
  have c126 : ¬ (18 : Int32) = (13 : Int32) := by decide
  refine own_icmp_ne X hx hby d1_126 133 129 (by decide) rfl (fun _ => ?_) (fun q => absurd q c126)
  refine own_iloadN X hx hby (18 : Int32) d1_133 rfl 134 rfl ?_
  refine own_bipush X hx hby (14 : Int32) d1_134 rfl 136 rfl ?_
  have c136 : ¬ (18 : Int32) = (14 : Int32) := by decide
  refine own_icmp_ne X hx hby d1_136 143 139 (by decide) rfl (fun _ => ?_) (fun q => absurd q c136)
  refine own_iloadN X hx hby (18 : Int32) d1_143 rfl 144 rfl ?_
  refine own_bipush X hx hby (15 : Int32) d1_144 rfl 146 rfl ?_
  have c146 : ¬ (18 : Int32) = (15 : Int32) := by decide
  refine own_icmp_ne X hx hby d1_146 153 149 (by decide) rfl (fun _ => ?_) (fun q => absurd q c146)
  refine own_iloadN X hx hby (18 : Int32) d1_153 rfl 154 rfl ?_
  refine own_bipush X hx hby (16 : Int32) d1_154 rfl 156 rfl ?_
  have c156 : ¬ (18 : Int32) = (16 : Int32) := by decide
  refine own_icmp_ne X hx hby d1_156 163 159 (by decide) rfl (fun _ => ?_) (fun q => absurd q c156)
  refine own_iloadN X hx hby (18 : Int32) d1_163 rfl 164 rfl ?_
  refine own_bipush X hx hby (17 : Int32) d1_164 rfl 166 rfl ?_
  have c166 : ¬ (18 : Int32) = (17 : Int32) := by decide
  refine own_icmp_ne X hx hby d1_166 173 169 (by decide) rfl (fun _ => ?_) (fun q => absurd q c166)
  refine own_getS X hx hby hZ hown (host := "") (Or.inl (hw _ (List.mem_of_getElem? (i := 44) rfl))) Via.refl eT S_START d1_173 176 rfl ?_
  intro T173 X eT
  refine own_retA X hx hby hret hlk rfl rfl rfl d1_176 (by decide) (by decide) ?_
  rw [eT]
  exact ⟨rfl, N, rfl⟩
theorem ef_2 (a1 : Addr) (m : MethodId) : entryFrame m #[(.ref a1)] 1 = mkF m 0 #[.val (.ref a1)] [] := by first | (simp [entryFrame, mkF, argsToLocals, Value.category]; done) | rfl
def Q2 (Z : State) (a1 : Addr) (w_code_a1 : Int32) (h0 : Heap) (n0 : Nat) (v : Option Value) (h : Heap) (L : List Loc) : Prop := v = some (.int w_code_a1) ∧ Fr n0 L ∧ h = h0
set_option maxRecDepth 65536 in
set_option maxHeartbeats 40000000 in
theorem rm2 (l : Launch) (Z : State) (a0 : Array Value) (hw : ∀ d ∈ tables_1, d.before a0 Z = true) (a1 : Addr) (w_code_a1 : Int32) (h0 : Heap) (n0 : Nat) (Zs : n0 ≤ h0.size) (F_code_a1 : Fld Z h0 a1 "com/example/intrcom/intrcom/Command" "code" "I" (.int w_code_a1)) :
    Met1 l Z (⟨"com/example/intrcom/intrcom/Command", "code", "()I"⟩ : MethodName) prog_4_method_4_code 1 (some .int) ({ frames := 0, cells := 0, slots := 0, locals := 0 } : Room) #[(.ref a1)] h0 (Q2 Z a1 w_code_a1 h0 n0) := by
  refine own_met_of (plainFor_of_name pn_2) (ef_2 a1) ?_
  intro p e s m below meth c s₁ X hx hby hml hZ hown hnm hret hlk eT
  have hown : s.vm.findClass "com/example/intrcom/intrcom/Command" = some m.cls := hown
  have N := Fr.nil n0
  refine own_aloadN X hx hby (.ref a1) d2_0 rfl rfl 1 rfl ?_
  refine own_getF X hx hby hZ hown (host := "") (Or.inl (hw _ (List.mem_of_getElem? (i := 13) rfl))) Via.refl eT F_code_a1 d2_1 4 rfl ?_
  intro T1 X eT
  refine own_retI X hx hby hret hlk d2_4 (by decide) (by decide) ?_
  rw [eT]
  exact ⟨rfl, N, rfl⟩
theorem ef_3 (a1 : Addr) (m : MethodId) : entryFrame m #[(.ref a1)] 1 = mkF m 0 #[.val (.ref a1)] [] := by first | (simp [entryFrame, mkF, argsToLocals, Value.category]; done) | rfl
def f3 (a1 : Addr) (u_REPLY : Addr) (u_ERROR : Addr) : Int32 := (if a1 = u_REPLY then (1 : Int32) else (if a1 = u_ERROR then (1 : Int32) else (0 : Int32)))
def Q3 (Z : State) (a1 : Addr) (u_REPLY : Addr) (u_ERROR : Addr) (h0 : Heap) (n0 : Nat) (v : Option Value) (h : Heap) (L : List Loc) : Prop := v = some (.int (f3 a1 u_REPLY u_ERROR)) ∧ Fr n0 L ∧ h = h0
set_option maxRecDepth 65536 in
set_option maxHeartbeats 40000000 in
theorem rm3 (l : Launch) (Z : State) (a0 : Array Value) (hw : ∀ d ∈ tables_1, d.before a0 Z = true) (a1 : Addr) (u_REPLY : Addr) (u_ERROR : Addr) (h0 : Heap) (n0 : Nat) (Zs : n0 ≤ h0.size) (S_REPLY : Sta Z h0 "com/example/intrcom/intrcom/Command" "REPLY" "Lcom/example/intrcom/intrcom/Command;" (.ref u_REPLY)) (S_ERROR : Sta Z h0 "com/example/intrcom/intrcom/Command" "ERROR" "Lcom/example/intrcom/intrcom/Command;" (.ref u_ERROR)) :
    Met1 l Z (⟨"com/example/intrcom/intrcom/Command", "isAnswer", "()Z"⟩ : MethodName) prog_4_method_7_code 1 (some .boolean) ({ frames := 0, cells := 0, slots := 0, locals := 0 } : Room) #[(.ref a1)] h0 (Q3 Z a1 u_REPLY u_ERROR h0 n0) := by
  refine own_met_of (plainFor_of_name pn_2) (ef_3 a1) ?_
  intro p e s m below meth c s₁ X hx hby hml hZ hown hnm hret hlk eT
  have hown : s.vm.findClass "com/example/intrcom/intrcom/Command" = some m.cls := hown
  have N := Fr.nil n0
  refine own_aloadN X hx hby (.ref a1) d3_0 rfl rfl 1 rfl ?_
  refine own_getS X hx hby hZ hown (host := "") (Or.inl (hw _ (List.mem_of_getElem? (i := 20) rfl))) Via.refl eT S_REPLY d3_1 4 rfl ?_
  intro T1 X eT
  by_cases c4 : a1 = u_REPLY
  · refine own_acmp X hx hby true d3_4 rfl rfl (decide_eq_true (congrArg Value.ref c4)) (by decide) 14 (by decide) ?_
    refine own_iconst X hx hby (1 : Int32) d3_14 rfl 15 rfl ?_
    refine own_goto X hx hby d3_15 19 (by decide) ?_
    refine own_retN X hx hby hret hlk (t := .boolean) (z' := (1 : Int32)) (by simp) d3_19 (by decide) (by decide) rfl ?_
    rw [eT]
    exact ⟨congrArg (fun z => some (Value.int z)) (by unfold f3; rw [if_pos c4]), N, rfl⟩
  · refine own_acmp X hx hby false d3_4 rfl rfl (decide_eq_false fun q => c4 (Value.ref.inj q)) (by decide) 7 (by decide) ?_
    refine own_aloadN X hx hby (.ref a1) d3_7 rfl rfl 8 rfl ?_
    refine own_getS X hx hby hZ hown (host := "") (Or.inl (hw _ (List.mem_of_getElem? (i := 22) rfl))) Via.refl eT S_ERROR d3_8 11 rfl ?_
    intro T8 X eT
    by_cases c11 : a1 = u_ERROR
    · refine own_acmp X hx hby true d3_11 rfl rfl (decide_eq_true (congrArg Value.ref c11)) (by decide) 14 (by decide) ?_
      refine own_iconst X hx hby (1 : Int32) d3_14 rfl 15 rfl ?_
      refine own_goto X hx hby d3_15 19 (by decide) ?_
      refine own_retN X hx hby hret hlk (t := .boolean) (z' := (1 : Int32)) (by simp) d3_19 (by decide) (by decide) rfl ?_
      rw [eT]
      exact ⟨congrArg (fun z => some (Value.int z)) (by unfold f3; rw [if_neg c4, if_pos c11]), N, rfl⟩
    · refine own_acmp X hx hby false d3_11 rfl rfl (decide_eq_false fun q => c11 (Value.ref.inj q)) (by decide) 18 (by decide) ?_
      refine own_iconst X hx hby (0 : Int32) d3_18 rfl 19 rfl ?_
      refine own_retN X hx hby hret hlk (t := .boolean) (z' := (0 : Int32)) (by simp) d3_19 (by decide) (by decide) rfl ?_
      rw [eT]
      exact ⟨congrArg (fun z => some (Value.int z)) (by unfold f3; rw [if_neg c4, if_neg c11]), N, rfl⟩
theorem ef_0 (p1 : Int32) (m : MethodId) : entryFrame m #[(.int p1)] maxLocals = mkF m 0 #[.val (.int p1), .unset, .unset, .unset, .unset] [] := by first | (simp [entryFrame, mkF, argsToLocals, Value.category, maxLocals]; done) | rfl
def Q0 (Z : State) (p1 : Int32) (u_READY : Addr) (u_REQUEST : Addr) (u_REPLY : Addr) (u_HEARTBEAT : Addr) (u_DISCONNECT : Addr) (u_ERROR : Addr) (u_HEALTH : Addr) (u_SUBSCRIBE : Addr) (u_PUBLISH : Addr) (u_RECEIVED : Addr) (u_HOLD : Addr) (u_GONE : Addr) (u_GET : Addr) (u_KEYS : Addr) (u_WATCH : Addr) (u_WAIT : Addr) (u_RESTART : Addr) (u_STOP : Addr) (u_START : Addr) (h0 : Heap) (n0 : Nat) (v : Option Value) (h : Heap) (L : List Loc) : Prop := v = some (.int (1 : Int32)) ∧ Fr n0 L
theorem own_split (z v : Int32) (e : ((z &&& (2147483647 : Int32)) % (19 : Int32)) = v) : v = (0 : Int32) ∨ v = (1 : Int32) ∨ v = (2 : Int32) ∨ v = (3 : Int32) ∨ v = (4 : Int32) ∨ v = (5 : Int32) ∨ v = (6 : Int32) ∨ v = (7 : Int32) ∨ v = (8 : Int32) ∨ v = (9 : Int32) ∨ v = (10 : Int32) ∨ v = (11 : Int32) ∨ v = (12 : Int32) ∨ v = (13 : Int32) ∨ v = (14 : Int32) ∨ v = (15 : Int32) ∨ v = (16 : Int32) ∨ v = (17 : Int32) ∨ v = (18 : Int32) := by
  have h := c_mask z (2147483647 : Int32) 31 (by decide) (by decide)
  have h1 := c_irem (z &&& (2147483647 : Int32)) (19 : Int32) 19 (by decide)
  rw [e] at h1
  have h2 := h1.1 (by omega)
  simp only [← Int32.toInt_inj, Int32.reduceToInt]
  omega
set_option maxRecDepth 65536 in
set_option maxHeartbeats 40000000 in
theorem rm0 (l : Launch) (Z : State) (a0 : Array Value) (hw : ∀ d ∈ tables_1, d.before a0 Z = true) (p1 : Int32) (u_READY : Addr) (u_REQUEST : Addr) (u_REPLY : Addr) (u_HEARTBEAT : Addr) (u_DISCONNECT : Addr) (u_ERROR : Addr) (u_HEALTH : Addr) (u_SUBSCRIBE : Addr) (u_PUBLISH : Addr) (u_RECEIVED : Addr) (u_HOLD : Addr) (u_GONE : Addr) (u_GET : Addr) (u_KEYS : Addr) (u_WATCH : Addr) (u_WAIT : Addr) (u_RESTART : Addr) (u_STOP : Addr) (u_START : Addr) (h0 : Heap) (n0 : Nat) (Zs : n0 ≤ h0.size) (nr_READY : u_READY ≠ u_REPLY) (ns_READY : u_READY ≠ u_ERROR) (nr_REQUEST : u_REQUEST ≠ u_REPLY) (ns_REQUEST : u_REQUEST ≠ u_ERROR) (nr_HEARTBEAT : u_HEARTBEAT ≠ u_REPLY) (ns_HEARTBEAT : u_HEARTBEAT ≠ u_ERROR) (nr_DISCONNECT : u_DISCONNECT ≠ u_REPLY) (ns_DISCONNECT : u_DISCONNECT ≠ u_ERROR) (nr_HEALTH : u_HEALTH ≠ u_REPLY) (ns_HEALTH : u_HEALTH ≠ u_ERROR) (nr_SUBSCRIBE : u_SUBSCRIBE ≠ u_REPLY) (ns_SUBSCRIBE : u_SUBSCRIBE ≠ u_ERROR) (nr_PUBLISH : u_PUBLISH ≠ u_REPLY) (ns_PUBLISH : u_PUBLISH ≠ u_ERROR) (nr_RECEIVED : u_RECEIVED ≠ u_REPLY) (ns_RECEIVED : u_RECEIVED ≠ u_ERROR) (nr_HOLD : u_HOLD ≠ u_REPLY) (ns_HOLD : u_HOLD ≠ u_ERROR) (nr_GONE : u_GONE ≠ u_REPLY) (ns_GONE : u_GONE ≠ u_ERROR) (nr_GET : u_GET ≠ u_REPLY) (ns_GET : u_GET ≠ u_ERROR) (nr_KEYS : u_KEYS ≠ u_REPLY) (ns_KEYS : u_KEYS ≠ u_ERROR) (nr_WATCH : u_WATCH ≠ u_REPLY) (ns_WATCH : u_WATCH ≠ u_ERROR) (nr_WAIT : u_WAIT ≠ u_REPLY) (ns_WAIT : u_WAIT ≠ u_ERROR) (nr_RESTART : u_RESTART ≠ u_REPLY) (ns_RESTART : u_RESTART ≠ u_ERROR) (nr_STOP : u_STOP ≠ u_REPLY) (ns_STOP : u_STOP ≠ u_ERROR) (nr_START : u_START ≠ u_REPLY) (ns_START : u_START ≠ u_ERROR) (S_READY : Sta Z h0 "com/example/intrcom/intrcom/Command" "READY" "Lcom/example/intrcom/intrcom/Command;" (.ref u_READY)) (F_code_u_READY : Fld Z h0 u_READY "com/example/intrcom/intrcom/Command" "code" "I" (.int (1 : Int32))) (E_u_READY : Exa Z h0 u_READY "com/example/intrcom/intrcom/Command") (S_REPLY : Sta Z h0 "com/example/intrcom/intrcom/Command" "REPLY" "Lcom/example/intrcom/intrcom/Command;" (.ref u_REPLY)) (S_ERROR : Sta Z h0 "com/example/intrcom/intrcom/Command" "ERROR" "Lcom/example/intrcom/intrcom/Command;" (.ref u_ERROR)) (S_REQUEST : Sta Z h0 "com/example/intrcom/intrcom/Command" "REQUEST" "Lcom/example/intrcom/intrcom/Command;" (.ref u_REQUEST)) (F_code_u_REQUEST : Fld Z h0 u_REQUEST "com/example/intrcom/intrcom/Command" "code" "I" (.int (2 : Int32))) (E_u_REQUEST : Exa Z h0 u_REQUEST "com/example/intrcom/intrcom/Command") (F_code_u_REPLY : Fld Z h0 u_REPLY "com/example/intrcom/intrcom/Command" "code" "I" (.int (3 : Int32))) (E_u_REPLY : Exa Z h0 u_REPLY "com/example/intrcom/intrcom/Command") (S_HEARTBEAT : Sta Z h0 "com/example/intrcom/intrcom/Command" "HEARTBEAT" "Lcom/example/intrcom/intrcom/Command;" (.ref u_HEARTBEAT)) (F_code_u_HEARTBEAT : Fld Z h0 u_HEARTBEAT "com/example/intrcom/intrcom/Command" "code" "I" (.int (4 : Int32))) (E_u_HEARTBEAT : Exa Z h0 u_HEARTBEAT "com/example/intrcom/intrcom/Command") (S_DISCONNECT : Sta Z h0 "com/example/intrcom/intrcom/Command" "DISCONNECT" "Lcom/example/intrcom/intrcom/Command;" (.ref u_DISCONNECT)) (F_code_u_DISCONNECT : Fld Z h0 u_DISCONNECT "com/example/intrcom/intrcom/Command" "code" "I" (.int (5 : Int32))) (E_u_DISCONNECT : Exa Z h0 u_DISCONNECT "com/example/intrcom/intrcom/Command") (F_code_u_ERROR : Fld Z h0 u_ERROR "com/example/intrcom/intrcom/Command" "code" "I" (.int (6 : Int32))) (E_u_ERROR : Exa Z h0 u_ERROR "com/example/intrcom/intrcom/Command") (S_HEALTH : Sta Z h0 "com/example/intrcom/intrcom/Command" "HEALTH" "Lcom/example/intrcom/intrcom/Command;" (.ref u_HEALTH)) (F_code_u_HEALTH : Fld Z h0 u_HEALTH "com/example/intrcom/intrcom/Command" "code" "I" (.int (7 : Int32))) (E_u_HEALTH : Exa Z h0 u_HEALTH "com/example/intrcom/intrcom/Command") (S_SUBSCRIBE : Sta Z h0 "com/example/intrcom/intrcom/Command" "SUBSCRIBE" "Lcom/example/intrcom/intrcom/Command;" (.ref u_SUBSCRIBE)) (F_code_u_SUBSCRIBE : Fld Z h0 u_SUBSCRIBE "com/example/intrcom/intrcom/Command" "code" "I" (.int (8 : Int32))) (E_u_SUBSCRIBE : Exa Z h0 u_SUBSCRIBE "com/example/intrcom/intrcom/Command") (S_PUBLISH : Sta Z h0 "com/example/intrcom/intrcom/Command" "PUBLISH" "Lcom/example/intrcom/intrcom/Command;" (.ref u_PUBLISH)) (F_code_u_PUBLISH : Fld Z h0 u_PUBLISH "com/example/intrcom/intrcom/Command" "code" "I" (.int (9 : Int32))) (E_u_PUBLISH : Exa Z h0 u_PUBLISH "com/example/intrcom/intrcom/Command") (S_RECEIVED : Sta Z h0 "com/example/intrcom/intrcom/Command" "RECEIVED" "Lcom/example/intrcom/intrcom/Command;" (.ref u_RECEIVED)) (F_code_u_RECEIVED : Fld Z h0 u_RECEIVED "com/example/intrcom/intrcom/Command" "code" "I" (.int (10 : Int32))) (E_u_RECEIVED : Exa Z h0 u_RECEIVED "com/example/intrcom/intrcom/Command") (S_HOLD : Sta Z h0 "com/example/intrcom/intrcom/Command" "HOLD" "Lcom/example/intrcom/intrcom/Command;" (.ref u_HOLD)) (F_code_u_HOLD : Fld Z h0 u_HOLD "com/example/intrcom/intrcom/Command" "code" "I" (.int (11 : Int32))) (E_u_HOLD : Exa Z h0 u_HOLD "com/example/intrcom/intrcom/Command") (S_GONE : Sta Z h0 "com/example/intrcom/intrcom/Command" "GONE" "Lcom/example/intrcom/intrcom/Command;" (.ref u_GONE)) (F_code_u_GONE : Fld Z h0 u_GONE "com/example/intrcom/intrcom/Command" "code" "I" (.int (12 : Int32))) (E_u_GONE : Exa Z h0 u_GONE "com/example/intrcom/intrcom/Command") (S_GET : Sta Z h0 "com/example/intrcom/intrcom/Command" "GET" "Lcom/example/intrcom/intrcom/Command;" (.ref u_GET)) (F_code_u_GET : Fld Z h0 u_GET "com/example/intrcom/intrcom/Command" "code" "I" (.int (13 : Int32))) (E_u_GET : Exa Z h0 u_GET "com/example/intrcom/intrcom/Command") (S_KEYS : Sta Z h0 "com/example/intrcom/intrcom/Command" "KEYS" "Lcom/example/intrcom/intrcom/Command;" (.ref u_KEYS)) (F_code_u_KEYS : Fld Z h0 u_KEYS "com/example/intrcom/intrcom/Command" "code" "I" (.int (14 : Int32))) (E_u_KEYS : Exa Z h0 u_KEYS "com/example/intrcom/intrcom/Command") (S_WATCH : Sta Z h0 "com/example/intrcom/intrcom/Command" "WATCH" "Lcom/example/intrcom/intrcom/Command;" (.ref u_WATCH)) (F_code_u_WATCH : Fld Z h0 u_WATCH "com/example/intrcom/intrcom/Command" "code" "I" (.int (15 : Int32))) (E_u_WATCH : Exa Z h0 u_WATCH "com/example/intrcom/intrcom/Command") (S_WAIT : Sta Z h0 "com/example/intrcom/intrcom/Command" "WAIT" "Lcom/example/intrcom/intrcom/Command;" (.ref u_WAIT)) (F_code_u_WAIT : Fld Z h0 u_WAIT "com/example/intrcom/intrcom/Command" "code" "I" (.int (16 : Int32))) (E_u_WAIT : Exa Z h0 u_WAIT "com/example/intrcom/intrcom/Command") (S_RESTART : Sta Z h0 "com/example/intrcom/intrcom/Command" "RESTART" "Lcom/example/intrcom/intrcom/Command;" (.ref u_RESTART)) (F_code_u_RESTART : Fld Z h0 u_RESTART "com/example/intrcom/intrcom/Command" "code" "I" (.int (17 : Int32))) (E_u_RESTART : Exa Z h0 u_RESTART "com/example/intrcom/intrcom/Command") (S_STOP : Sta Z h0 "com/example/intrcom/intrcom/Command" "STOP" "Lcom/example/intrcom/intrcom/Command;" (.ref u_STOP)) (F_code_u_STOP : Fld Z h0 u_STOP "com/example/intrcom/intrcom/Command" "code" "I" (.int (18 : Int32))) (E_u_STOP : Exa Z h0 u_STOP "com/example/intrcom/intrcom/Command") (S_START : Sta Z h0 "com/example/intrcom/intrcom/Command" "START" "Lcom/example/intrcom/intrcom/Command;" (.ref u_START)) (F_code_u_START : Fld Z h0 u_START "com/example/intrcom/intrcom/Command" "code" "I" (.int (19 : Int32))) (E_u_START : Exa Z h0 u_START "com/example/intrcom/intrcom/Command") :
    Met1 l Z x code maxLocals ret room_1 #[(.int p1)] h0 (Q0 Z p1 u_READY u_REQUEST u_REPLY u_HEARTBEAT u_DISCONNECT u_ERROR u_HEALTH u_SUBSCRIBE u_PUBLISH u_RECEIVED u_HOLD u_GONE u_GET u_KEYS u_WATCH u_WAIT u_RESTART u_STOP u_START h0 n0) := by
  refine own_met_of (plainFor_of_name pn_1) (ef_0 p1) ?_
  intro p e s m below meth c s₁ X hx hby hml hZ hown hnm hret hlk eT
  have hown : s.vm.findClass "com/example/intrcom/intrcom/CommandIsAnswerPinLaw" = some m.cls := hown
  have N := Fr.nil n0
  refine own_iloadN X hx hby p1 at_0 rfl 1 rfl ?_
  refine own_ldc X hx hby hZ (2147483647 : Int32) hown (hw _ (List.mem_of_getElem? (i := 0) rfl)) at_1 3 rfl ?_
  refine own_iand X hx hby at_3 4 rfl ?_
  refine own_bipush X hx hby (19 : Int32) at_4 rfl 6 rfl ?_
  refine own_irem X hx hby at_6 (by decide) 7 rfl ?_
  obtain ⟨v7, e7⟩ : ∃ z : Int32, ((p1 &&& (2147483647 : Int32)) % (19 : Int32)) = z := ⟨_, rfl⟩
  refine own_istoreN X hx hby at_7 e7 (l' := #[.val (.int p1), .val (.int v7), .unset, .unset, .unset]) rfl 8 rfl ?_
  rcases (own_split _ _ e7 : v7 = (0 : Int32) ∨ v7 = (1 : Int32) ∨ v7 = (2 : Int32) ∨ v7 = (3 : Int32) ∨ v7 = (4 : Int32) ∨ v7 = (5 : Int32) ∨ v7 = (6 : Int32) ∨ v7 = (7 : Int32) ∨ v7 = (8 : Int32) ∨ v7 = (9 : Int32) ∨ v7 = (10 : Int32) ∨ v7 = (11 : Int32) ∨ v7 = (12 : Int32) ∨ v7 = (13 : Int32) ∨ v7 = (14 : Int32) ∨ v7 = (15 : Int32) ∨ v7 = (16 : Int32) ∨ v7 = (17 : Int32) ∨ v7 = (18 : Int32)) with rfl | rfl | rfl | rfl | rfl | rfl | rfl | rfl | rfl | rfl | rfl | rfl | rfl | rfl | rfl | rfl | rfl | rfl | rfl
  · skip
    refine own_iloadN X hx hby (0 : Int32) at_8 rfl 9 rfl ?_
    refine own_callS X hx hby hZ (st := []) [(.int (0 : Int32))] rfl hown (hw _ (List.mem_of_getElem? (i := 1) rfl)) (hw _ (List.mem_of_getElem? (i := 2) rfl)) (hw _ (List.mem_of_getElem? (i := 3) rfl)) (hw _ (List.mem_of_getElem? (i := 4) rfl)) (by decide) at_9 (rm1_0 l Z a0 hw u_READY h0 n0 Zs S_READY) eT pd_2 rfl (by rw [hml]; rfl) (by decide) 0 rfl (by decide) (by decide) (by decide) 12 rfl ?_
    intro T9 L9 v9 X hQ
    obtain ⟨rfl, N9, eT⟩ := hQ
    have N := Fr.app N N9
    show Go p e below _ T9 (mkF m 12 #[.val (.int p1), .val (.int (0 : Int32)), .unset, .unset, .unset] [(.ref u_READY)])
    refine own_astoreN X hx hby at_12 rfl (l' := #[.val (.int p1), .val (.int (0 : Int32)), .val (.ref u_READY), .unset, .unset]) rfl 13 rfl ?_
    refine own_aloadN X hx hby (.ref u_READY) at_13 rfl rfl 14 rfl ?_
    refine own_callV X hx hby hZ (st := []) [] rfl hown (hw _ (List.mem_of_getElem? (i := 8) rfl)) (hw _ (List.mem_of_getElem? (i := 9) rfl)) (hw _ (List.mem_of_getElem? (i := 11) rfl)) (hw _ (List.mem_of_getElem? (i := 10) rfl)) (hw _ (List.mem_of_getElem? (i := 6) rfl)) (hw _ (List.mem_of_getElem? (i := 12) rfl)) E_u_READY (by decide) at_14 (rm2 l Z a0 hw u_READY (1 : Int32) h0 n0 Zs F_code_u_READY) eT pd_0 rfl (by rw [hml]; rfl) (by decide) 0 rfl (by decide) (by decide) (by decide) 17 rfl ?_
    intro T14 L9 v9 X hQ
    obtain ⟨rfl, N9, eT⟩ := hQ
    have N := Fr.app N N9
    show Go p e below _ T14 (mkF m 17 #[.val (.int p1), .val (.int (0 : Int32)), .val (.ref u_READY), .unset, .unset] [(.int (1 : Int32))])
    refine own_istoreN X hx hby at_17 rfl (l' := #[.val (.int p1), .val (.int (0 : Int32)), .val (.ref u_READY), .val (.int (1 : Int32)), .unset]) rfl 18 rfl ?_
    refine own_iloadN X hx hby (1 : Int32) at_18 rfl 19 rfl ?_
    refine own_iconst X hx hby (3 : Int32) at_19 rfl 20 rfl ?_
    have c20 : ¬ (1 : Int32) = (3 : Int32) := by decide
    refine own_icmp_eq X hx hby at_20 29 23 (by decide) rfl (fun q => absurd q c20) (fun _ => ?_)
    refine own_iloadN X hx hby (1 : Int32) at_23 rfl 24 rfl ?_
    refine own_bipush X hx hby (6 : Int32) at_24 rfl 26 rfl ?_
    have c26 : ¬ (1 : Int32) = (6 : Int32) := by decide
    refine own_icmp_ne X hx hby at_26 33 29 (by decide) rfl (fun _ => ?_) (fun q => absurd q c26)
    refine own_iconst X hx hby (0 : Int32) at_33 rfl 34 rfl ?_
    refine own_istore X hx hby at_34 rfl (l' := #[.val (.int p1), .val (.int (0 : Int32)), .val (.ref u_READY), .val (.int (1 : Int32)), .val (.int (0 : Int32))]) rfl 36 rfl ?_
    refine own_iloadN X hx hby (1 : Int32) at_36 rfl 37 rfl ?_
    refine own_iloadN X hx hby (0 : Int32) at_37 rfl 38 rfl ?_
    refine own_iconst X hx hby (1 : Int32) at_38 rfl 39 rfl ?_
    refine own_iadd X hx hby at_39 40 rfl ?_
    refine own_top (v' := (.int (1 : Int32))) (congrArg Value.int (by decide)) ?_
    have c40 : (1 : Int32) = (1 : Int32) := by decide
    refine own_icmp_ne X hx hby at_40 56 43 (by decide) rfl (fun q => absurd c40 q) (fun _ => ?_)
    refine own_aloadN X hx hby (.ref u_READY) at_43 rfl rfl 44 rfl ?_
    refine own_callV X hx hby hZ (st := []) [] rfl hown (hw _ (List.mem_of_getElem? (i := 15) rfl)) (hw _ (List.mem_of_getElem? (i := 16) rfl)) (hw _ (List.mem_of_getElem? (i := 18) rfl)) (hw _ (List.mem_of_getElem? (i := 17) rfl)) (hw _ (List.mem_of_getElem? (i := 6) rfl)) (hw _ (List.mem_of_getElem? (i := 19) rfl)) E_u_READY (by decide) at_44 (rm3 l Z a0 hw u_READY u_REPLY u_ERROR h0 n0 Zs S_REPLY S_ERROR) eT pd_1 rfl (by rw [hml]; rfl) (by decide) 0 rfl (by decide) (by decide) (by decide) 47 rfl ?_
    intro T44 L9 v9 X hQ
    obtain ⟨rfl, N9, eT⟩ := hQ
    have N := Fr.app N N9
    show Go p e below _ T44 (mkF m 47 #[.val (.int p1), .val (.int (0 : Int32)), .val (.ref u_READY), .val (.int (1 : Int32)), .val (.int (0 : Int32))] [(.int (f3 u_READY u_REPLY u_ERROR))])
    refine own_iload X hx hby (0 : Int32) at_47 rfl 49 rfl ?_
    have c49 : (f3 u_READY u_REPLY u_ERROR) = (0 : Int32) := by simp only [f3, if_neg nr_READY, if_neg ns_READY]
    refine own_icmp_ne X hx hby at_49 56 52 (by decide) rfl (fun q => absurd c49 q) (fun _ => ?_)
    refine own_iconst X hx hby (1 : Int32) at_52 rfl 53 rfl ?_
    refine own_goto X hx hby at_53 57 (by decide) ?_
    refine own_retN X hx hby hret hlk (t := .boolean) (z' := (1 : Int32)) (by simp) at_57 (by decide) (by decide) rfl ?_
    rw [eT]
    exact ⟨rfl, N⟩
  · skip
    refine own_iloadN X hx hby (1 : Int32) at_8 rfl 9 rfl ?_
    refine own_callS X hx hby hZ (st := []) [(.int (1 : Int32))] rfl hown (hw _ (List.mem_of_getElem? (i := 1) rfl)) (hw _ (List.mem_of_getElem? (i := 2) rfl)) (hw _ (List.mem_of_getElem? (i := 3) rfl)) (hw _ (List.mem_of_getElem? (i := 4) rfl)) (by decide) at_9 (rm1_1 l Z a0 hw u_REQUEST h0 n0 Zs S_REQUEST) eT pd_2 rfl (by rw [hml]; rfl) (by decide) 0 rfl (by decide) (by decide) (by decide) 12 rfl ?_
    intro T9 L9 v9 X hQ
    obtain ⟨rfl, N9, eT⟩ := hQ
    have N := Fr.app N N9
    show Go p e below _ T9 (mkF m 12 #[.val (.int p1), .val (.int (1 : Int32)), .unset, .unset, .unset] [(.ref u_REQUEST)])
    refine own_astoreN X hx hby at_12 rfl (l' := #[.val (.int p1), .val (.int (1 : Int32)), .val (.ref u_REQUEST), .unset, .unset]) rfl 13 rfl ?_
    refine own_aloadN X hx hby (.ref u_REQUEST) at_13 rfl rfl 14 rfl ?_
    refine own_callV X hx hby hZ (st := []) [] rfl hown (hw _ (List.mem_of_getElem? (i := 8) rfl)) (hw _ (List.mem_of_getElem? (i := 9) rfl)) (hw _ (List.mem_of_getElem? (i := 11) rfl)) (hw _ (List.mem_of_getElem? (i := 10) rfl)) (hw _ (List.mem_of_getElem? (i := 6) rfl)) (hw _ (List.mem_of_getElem? (i := 12) rfl)) E_u_REQUEST (by decide) at_14 (rm2 l Z a0 hw u_REQUEST (2 : Int32) h0 n0 Zs F_code_u_REQUEST) eT pd_0 rfl (by rw [hml]; rfl) (by decide) 0 rfl (by decide) (by decide) (by decide) 17 rfl ?_
    intro T14 L9 v9 X hQ
    obtain ⟨rfl, N9, eT⟩ := hQ
    have N := Fr.app N N9
    show Go p e below _ T14 (mkF m 17 #[.val (.int p1), .val (.int (1 : Int32)), .val (.ref u_REQUEST), .unset, .unset] [(.int (2 : Int32))])
    refine own_istoreN X hx hby at_17 rfl (l' := #[.val (.int p1), .val (.int (1 : Int32)), .val (.ref u_REQUEST), .val (.int (2 : Int32)), .unset]) rfl 18 rfl ?_
    refine own_iloadN X hx hby (2 : Int32) at_18 rfl 19 rfl ?_
    refine own_iconst X hx hby (3 : Int32) at_19 rfl 20 rfl ?_
    have c20 : ¬ (2 : Int32) = (3 : Int32) := by decide
    refine own_icmp_eq X hx hby at_20 29 23 (by decide) rfl (fun q => absurd q c20) (fun _ => ?_)
    refine own_iloadN X hx hby (2 : Int32) at_23 rfl 24 rfl ?_
    refine own_bipush X hx hby (6 : Int32) at_24 rfl 26 rfl ?_
    have c26 : ¬ (2 : Int32) = (6 : Int32) := by decide
    refine own_icmp_ne X hx hby at_26 33 29 (by decide) rfl (fun _ => ?_) (fun q => absurd q c26)
    refine own_iconst X hx hby (0 : Int32) at_33 rfl 34 rfl ?_
    refine own_istore X hx hby at_34 rfl (l' := #[.val (.int p1), .val (.int (1 : Int32)), .val (.ref u_REQUEST), .val (.int (2 : Int32)), .val (.int (0 : Int32))]) rfl 36 rfl ?_
    refine own_iloadN X hx hby (2 : Int32) at_36 rfl 37 rfl ?_
    refine own_iloadN X hx hby (1 : Int32) at_37 rfl 38 rfl ?_
    refine own_iconst X hx hby (1 : Int32) at_38 rfl 39 rfl ?_
    refine own_iadd X hx hby at_39 40 rfl ?_
    refine own_top (v' := (.int (2 : Int32))) (congrArg Value.int (by decide)) ?_
    have c40 : (2 : Int32) = (2 : Int32) := by decide
    refine own_icmp_ne X hx hby at_40 56 43 (by decide) rfl (fun q => absurd c40 q) (fun _ => ?_)
    refine own_aloadN X hx hby (.ref u_REQUEST) at_43 rfl rfl 44 rfl ?_
    refine own_callV X hx hby hZ (st := []) [] rfl hown (hw _ (List.mem_of_getElem? (i := 15) rfl)) (hw _ (List.mem_of_getElem? (i := 16) rfl)) (hw _ (List.mem_of_getElem? (i := 18) rfl)) (hw _ (List.mem_of_getElem? (i := 17) rfl)) (hw _ (List.mem_of_getElem? (i := 6) rfl)) (hw _ (List.mem_of_getElem? (i := 19) rfl)) E_u_REQUEST (by decide) at_44 (rm3 l Z a0 hw u_REQUEST u_REPLY u_ERROR h0 n0 Zs S_REPLY S_ERROR) eT pd_1 rfl (by rw [hml]; rfl) (by decide) 0 rfl (by decide) (by decide) (by decide) 47 rfl ?_
    intro T44 L9 v9 X hQ
    obtain ⟨rfl, N9, eT⟩ := hQ
    have N := Fr.app N N9
    show Go p e below _ T44 (mkF m 47 #[.val (.int p1), .val (.int (1 : Int32)), .val (.ref u_REQUEST), .val (.int (2 : Int32)), .val (.int (0 : Int32))] [(.int (f3 u_REQUEST u_REPLY u_ERROR))])
    refine own_iload X hx hby (0 : Int32) at_47 rfl 49 rfl ?_
    have c49 : (f3 u_REQUEST u_REPLY u_ERROR) = (0 : Int32) := by simp only [f3, if_neg nr_REQUEST, if_neg ns_REQUEST]
    refine own_icmp_ne X hx hby at_49 56 52 (by decide) rfl (fun q => absurd c49 q) (fun _ => ?_)
    refine own_iconst X hx hby (1 : Int32) at_52 rfl 53 rfl ?_
    refine own_goto X hx hby at_53 57 (by decide) ?_
    refine own_retN X hx hby hret hlk (t := .boolean) (z' := (1 : Int32)) (by simp) at_57 (by decide) (by decide) rfl ?_
    rw [eT]
    exact ⟨rfl, N⟩
  · skip
    refine own_iloadN X hx hby (2 : Int32) at_8 rfl 9 rfl ?_
    refine own_callS X hx hby hZ (st := []) [(.int (2 : Int32))] rfl hown (hw _ (List.mem_of_getElem? (i := 1) rfl)) (hw _ (List.mem_of_getElem? (i := 2) rfl)) (hw _ (List.mem_of_getElem? (i := 3) rfl)) (hw _ (List.mem_of_getElem? (i := 4) rfl)) (by decide) at_9 (rm1_2 l Z a0 hw u_REPLY h0 n0 Zs S_REPLY) eT pd_2 rfl (by rw [hml]; rfl) (by decide) 0 rfl (by decide) (by decide) (by decide) 12 rfl ?_
    intro T9 L9 v9 X hQ
    obtain ⟨rfl, N9, eT⟩ := hQ
    have N := Fr.app N N9
    show Go p e below _ T9 (mkF m 12 #[.val (.int p1), .val (.int (2 : Int32)), .unset, .unset, .unset] [(.ref u_REPLY)])
    refine own_astoreN X hx hby at_12 rfl (l' := #[.val (.int p1), .val (.int (2 : Int32)), .val (.ref u_REPLY), .unset, .unset]) rfl 13 rfl ?_
    refine own_aloadN X hx hby (.ref u_REPLY) at_13 rfl rfl 14 rfl ?_
    refine own_callV X hx hby hZ (st := []) [] rfl hown (hw _ (List.mem_of_getElem? (i := 8) rfl)) (hw _ (List.mem_of_getElem? (i := 9) rfl)) (hw _ (List.mem_of_getElem? (i := 11) rfl)) (hw _ (List.mem_of_getElem? (i := 10) rfl)) (hw _ (List.mem_of_getElem? (i := 6) rfl)) (hw _ (List.mem_of_getElem? (i := 12) rfl)) E_u_REPLY (by decide) at_14 (rm2 l Z a0 hw u_REPLY (3 : Int32) h0 n0 Zs F_code_u_REPLY) eT pd_0 rfl (by rw [hml]; rfl) (by decide) 0 rfl (by decide) (by decide) (by decide) 17 rfl ?_
    intro T14 L9 v9 X hQ
    obtain ⟨rfl, N9, eT⟩ := hQ
    have N := Fr.app N N9
    show Go p e below _ T14 (mkF m 17 #[.val (.int p1), .val (.int (2 : Int32)), .val (.ref u_REPLY), .unset, .unset] [(.int (3 : Int32))])
    refine own_istoreN X hx hby at_17 rfl (l' := #[.val (.int p1), .val (.int (2 : Int32)), .val (.ref u_REPLY), .val (.int (3 : Int32)), .unset]) rfl 18 rfl ?_
    refine own_iloadN X hx hby (3 : Int32) at_18 rfl 19 rfl ?_
    refine own_iconst X hx hby (3 : Int32) at_19 rfl 20 rfl ?_
    have c20 : (3 : Int32) = (3 : Int32) := by decide
    refine own_icmp_eq X hx hby at_20 29 23 (by decide) rfl (fun _ => ?_) (fun q => absurd c20 q)
    refine own_iconst X hx hby (1 : Int32) at_29 rfl 30 rfl ?_
    refine own_goto X hx hby at_30 34 (by decide) ?_
    refine own_istore X hx hby at_34 rfl (l' := #[.val (.int p1), .val (.int (2 : Int32)), .val (.ref u_REPLY), .val (.int (3 : Int32)), .val (.int (1 : Int32))]) rfl 36 rfl ?_
    refine own_iloadN X hx hby (3 : Int32) at_36 rfl 37 rfl ?_
    refine own_iloadN X hx hby (2 : Int32) at_37 rfl 38 rfl ?_
    refine own_iconst X hx hby (1 : Int32) at_38 rfl 39 rfl ?_
    refine own_iadd X hx hby at_39 40 rfl ?_
    refine own_top (v' := (.int (3 : Int32))) (congrArg Value.int (by decide)) ?_
    have c40 : (3 : Int32) = (3 : Int32) := by decide
    refine own_icmp_ne X hx hby at_40 56 43 (by decide) rfl (fun q => absurd c40 q) (fun _ => ?_)
    refine own_aloadN X hx hby (.ref u_REPLY) at_43 rfl rfl 44 rfl ?_
    refine own_callV X hx hby hZ (st := []) [] rfl hown (hw _ (List.mem_of_getElem? (i := 15) rfl)) (hw _ (List.mem_of_getElem? (i := 16) rfl)) (hw _ (List.mem_of_getElem? (i := 18) rfl)) (hw _ (List.mem_of_getElem? (i := 17) rfl)) (hw _ (List.mem_of_getElem? (i := 6) rfl)) (hw _ (List.mem_of_getElem? (i := 19) rfl)) E_u_REPLY (by decide) at_44 (rm3 l Z a0 hw u_REPLY u_REPLY u_ERROR h0 n0 Zs S_REPLY S_ERROR) eT pd_1 rfl (by rw [hml]; rfl) (by decide) 0 rfl (by decide) (by decide) (by decide) 47 rfl ?_
    intro T44 L9 v9 X hQ
    obtain ⟨rfl, N9, eT⟩ := hQ
    have N := Fr.app N N9
    show Go p e below _ T44 (mkF m 47 #[.val (.int p1), .val (.int (2 : Int32)), .val (.ref u_REPLY), .val (.int (3 : Int32)), .val (.int (1 : Int32))] [(.int (f3 u_REPLY u_REPLY u_ERROR))])
    refine own_iload X hx hby (1 : Int32) at_47 rfl 49 rfl ?_
    have c49 : (f3 u_REPLY u_REPLY u_ERROR) = (1 : Int32) := by simp [f3]
    refine own_icmp_ne X hx hby at_49 56 52 (by decide) rfl (fun q => absurd c49 q) (fun _ => ?_)
    refine own_iconst X hx hby (1 : Int32) at_52 rfl 53 rfl ?_
    refine own_goto X hx hby at_53 57 (by decide) ?_
    refine own_retN X hx hby hret hlk (t := .boolean) (z' := (1 : Int32)) (by simp) at_57 (by decide) (by decide) rfl ?_
    rw [eT]
    exact ⟨rfl, N⟩
  · skip
    refine own_iloadN X hx hby (3 : Int32) at_8 rfl 9 rfl ?_
    refine own_callS X hx hby hZ (st := []) [(.int (3 : Int32))] rfl hown (hw _ (List.mem_of_getElem? (i := 1) rfl)) (hw _ (List.mem_of_getElem? (i := 2) rfl)) (hw _ (List.mem_of_getElem? (i := 3) rfl)) (hw _ (List.mem_of_getElem? (i := 4) rfl)) (by decide) at_9 (rm1_3 l Z a0 hw u_HEARTBEAT h0 n0 Zs S_HEARTBEAT) eT pd_2 rfl (by rw [hml]; rfl) (by decide) 0 rfl (by decide) (by decide) (by decide) 12 rfl ?_
    intro T9 L9 v9 X hQ
    obtain ⟨rfl, N9, eT⟩ := hQ
    have N := Fr.app N N9
    show Go p e below _ T9 (mkF m 12 #[.val (.int p1), .val (.int (3 : Int32)), .unset, .unset, .unset] [(.ref u_HEARTBEAT)])
    refine own_astoreN X hx hby at_12 rfl (l' := #[.val (.int p1), .val (.int (3 : Int32)), .val (.ref u_HEARTBEAT), .unset, .unset]) rfl 13 rfl ?_
    refine own_aloadN X hx hby (.ref u_HEARTBEAT) at_13 rfl rfl 14 rfl ?_
    refine own_callV X hx hby hZ (st := []) [] rfl hown (hw _ (List.mem_of_getElem? (i := 8) rfl)) (hw _ (List.mem_of_getElem? (i := 9) rfl)) (hw _ (List.mem_of_getElem? (i := 11) rfl)) (hw _ (List.mem_of_getElem? (i := 10) rfl)) (hw _ (List.mem_of_getElem? (i := 6) rfl)) (hw _ (List.mem_of_getElem? (i := 12) rfl)) E_u_HEARTBEAT (by decide) at_14 (rm2 l Z a0 hw u_HEARTBEAT (4 : Int32) h0 n0 Zs F_code_u_HEARTBEAT) eT pd_0 rfl (by rw [hml]; rfl) (by decide) 0 rfl (by decide) (by decide) (by decide) 17 rfl ?_
    intro T14 L9 v9 X hQ
    obtain ⟨rfl, N9, eT⟩ := hQ
    have N := Fr.app N N9
    show Go p e below _ T14 (mkF m 17 #[.val (.int p1), .val (.int (3 : Int32)), .val (.ref u_HEARTBEAT), .unset, .unset] [(.int (4 : Int32))])
    refine own_istoreN X hx hby at_17 rfl (l' := #[.val (.int p1), .val (.int (3 : Int32)), .val (.ref u_HEARTBEAT), .val (.int (4 : Int32)), .unset]) rfl 18 rfl ?_
    refine own_iloadN X hx hby (4 : Int32) at_18 rfl 19 rfl ?_
    refine own_iconst X hx hby (3 : Int32) at_19 rfl 20 rfl ?_
    have c20 : ¬ (4 : Int32) = (3 : Int32) := by decide
    refine own_icmp_eq X hx hby at_20 29 23 (by decide) rfl (fun q => absurd q c20) (fun _ => ?_)
    refine own_iloadN X hx hby (4 : Int32) at_23 rfl 24 rfl ?_
    refine own_bipush X hx hby (6 : Int32) at_24 rfl 26 rfl ?_
    have c26 : ¬ (4 : Int32) = (6 : Int32) := by decide
    refine own_icmp_ne X hx hby at_26 33 29 (by decide) rfl (fun _ => ?_) (fun q => absurd q c26)
    refine own_iconst X hx hby (0 : Int32) at_33 rfl 34 rfl ?_
    refine own_istore X hx hby at_34 rfl (l' := #[.val (.int p1), .val (.int (3 : Int32)), .val (.ref u_HEARTBEAT), .val (.int (4 : Int32)), .val (.int (0 : Int32))]) rfl 36 rfl ?_
    refine own_iloadN X hx hby (4 : Int32) at_36 rfl 37 rfl ?_
    refine own_iloadN X hx hby (3 : Int32) at_37 rfl 38 rfl ?_
    refine own_iconst X hx hby (1 : Int32) at_38 rfl 39 rfl ?_
    refine own_iadd X hx hby at_39 40 rfl ?_
    refine own_top (v' := (.int (4 : Int32))) (congrArg Value.int (by decide)) ?_
    have c40 : (4 : Int32) = (4 : Int32) := by decide
    refine own_icmp_ne X hx hby at_40 56 43 (by decide) rfl (fun q => absurd c40 q) (fun _ => ?_)
    refine own_aloadN X hx hby (.ref u_HEARTBEAT) at_43 rfl rfl 44 rfl ?_
    refine own_callV X hx hby hZ (st := []) [] rfl hown (hw _ (List.mem_of_getElem? (i := 15) rfl)) (hw _ (List.mem_of_getElem? (i := 16) rfl)) (hw _ (List.mem_of_getElem? (i := 18) rfl)) (hw _ (List.mem_of_getElem? (i := 17) rfl)) (hw _ (List.mem_of_getElem? (i := 6) rfl)) (hw _ (List.mem_of_getElem? (i := 19) rfl)) E_u_HEARTBEAT (by decide) at_44 (rm3 l Z a0 hw u_HEARTBEAT u_REPLY u_ERROR h0 n0 Zs S_REPLY S_ERROR) eT pd_1 rfl (by rw [hml]; rfl) (by decide) 0 rfl (by decide) (by decide) (by decide) 47 rfl ?_
    intro T44 L9 v9 X hQ
    obtain ⟨rfl, N9, eT⟩ := hQ
    have N := Fr.app N N9
    show Go p e below _ T44 (mkF m 47 #[.val (.int p1), .val (.int (3 : Int32)), .val (.ref u_HEARTBEAT), .val (.int (4 : Int32)), .val (.int (0 : Int32))] [(.int (f3 u_HEARTBEAT u_REPLY u_ERROR))])
    refine own_iload X hx hby (0 : Int32) at_47 rfl 49 rfl ?_
    have c49 : (f3 u_HEARTBEAT u_REPLY u_ERROR) = (0 : Int32) := by simp only [f3, if_neg nr_HEARTBEAT, if_neg ns_HEARTBEAT]
    refine own_icmp_ne X hx hby at_49 56 52 (by decide) rfl (fun q => absurd c49 q) (fun _ => ?_)
    refine own_iconst X hx hby (1 : Int32) at_52 rfl 53 rfl ?_
    refine own_goto X hx hby at_53 57 (by decide) ?_
    refine own_retN X hx hby hret hlk (t := .boolean) (z' := (1 : Int32)) (by simp) at_57 (by decide) (by decide) rfl ?_
    rw [eT]
    exact ⟨rfl, N⟩
  · skip
    refine own_iloadN X hx hby (4 : Int32) at_8 rfl 9 rfl ?_
    refine own_callS X hx hby hZ (st := []) [(.int (4 : Int32))] rfl hown (hw _ (List.mem_of_getElem? (i := 1) rfl)) (hw _ (List.mem_of_getElem? (i := 2) rfl)) (hw _ (List.mem_of_getElem? (i := 3) rfl)) (hw _ (List.mem_of_getElem? (i := 4) rfl)) (by decide) at_9 (rm1_4 l Z a0 hw u_DISCONNECT h0 n0 Zs S_DISCONNECT) eT pd_2 rfl (by rw [hml]; rfl) (by decide) 0 rfl (by decide) (by decide) (by decide) 12 rfl ?_
    intro T9 L9 v9 X hQ
    obtain ⟨rfl, N9, eT⟩ := hQ
    have N := Fr.app N N9
    show Go p e below _ T9 (mkF m 12 #[.val (.int p1), .val (.int (4 : Int32)), .unset, .unset, .unset] [(.ref u_DISCONNECT)])
    refine own_astoreN X hx hby at_12 rfl (l' := #[.val (.int p1), .val (.int (4 : Int32)), .val (.ref u_DISCONNECT), .unset, .unset]) rfl 13 rfl ?_
    refine own_aloadN X hx hby (.ref u_DISCONNECT) at_13 rfl rfl 14 rfl ?_
    refine own_callV X hx hby hZ (st := []) [] rfl hown (hw _ (List.mem_of_getElem? (i := 8) rfl)) (hw _ (List.mem_of_getElem? (i := 9) rfl)) (hw _ (List.mem_of_getElem? (i := 11) rfl)) (hw _ (List.mem_of_getElem? (i := 10) rfl)) (hw _ (List.mem_of_getElem? (i := 6) rfl)) (hw _ (List.mem_of_getElem? (i := 12) rfl)) E_u_DISCONNECT (by decide) at_14 (rm2 l Z a0 hw u_DISCONNECT (5 : Int32) h0 n0 Zs F_code_u_DISCONNECT) eT pd_0 rfl (by rw [hml]; rfl) (by decide) 0 rfl (by decide) (by decide) (by decide) 17 rfl ?_
    intro T14 L9 v9 X hQ
    obtain ⟨rfl, N9, eT⟩ := hQ
    have N := Fr.app N N9
    show Go p e below _ T14 (mkF m 17 #[.val (.int p1), .val (.int (4 : Int32)), .val (.ref u_DISCONNECT), .unset, .unset] [(.int (5 : Int32))])
    refine own_istoreN X hx hby at_17 rfl (l' := #[.val (.int p1), .val (.int (4 : Int32)), .val (.ref u_DISCONNECT), .val (.int (5 : Int32)), .unset]) rfl 18 rfl ?_
    refine own_iloadN X hx hby (5 : Int32) at_18 rfl 19 rfl ?_
    refine own_iconst X hx hby (3 : Int32) at_19 rfl 20 rfl ?_
    have c20 : ¬ (5 : Int32) = (3 : Int32) := by decide
    refine own_icmp_eq X hx hby at_20 29 23 (by decide) rfl (fun q => absurd q c20) (fun _ => ?_)
    refine own_iloadN X hx hby (5 : Int32) at_23 rfl 24 rfl ?_
    refine own_bipush X hx hby (6 : Int32) at_24 rfl 26 rfl ?_
    have c26 : ¬ (5 : Int32) = (6 : Int32) := by decide
    refine own_icmp_ne X hx hby at_26 33 29 (by decide) rfl (fun _ => ?_) (fun q => absurd q c26)
    refine own_iconst X hx hby (0 : Int32) at_33 rfl 34 rfl ?_
    refine own_istore X hx hby at_34 rfl (l' := #[.val (.int p1), .val (.int (4 : Int32)), .val (.ref u_DISCONNECT), .val (.int (5 : Int32)), .val (.int (0 : Int32))]) rfl 36 rfl ?_
    refine own_iloadN X hx hby (5 : Int32) at_36 rfl 37 rfl ?_
    refine own_iloadN X hx hby (4 : Int32) at_37 rfl 38 rfl ?_
    refine own_iconst X hx hby (1 : Int32) at_38 rfl 39 rfl ?_
    refine own_iadd X hx hby at_39 40 rfl ?_
    refine own_top (v' := (.int (5 : Int32))) (congrArg Value.int (by decide)) ?_
    have c40 : (5 : Int32) = (5 : Int32) := by decide
    refine own_icmp_ne X hx hby at_40 56 43 (by decide) rfl (fun q => absurd c40 q) (fun _ => ?_)
    refine own_aloadN X hx hby (.ref u_DISCONNECT) at_43 rfl rfl 44 rfl ?_
    refine own_callV X hx hby hZ (st := []) [] rfl hown (hw _ (List.mem_of_getElem? (i := 15) rfl)) (hw _ (List.mem_of_getElem? (i := 16) rfl)) (hw _ (List.mem_of_getElem? (i := 18) rfl)) (hw _ (List.mem_of_getElem? (i := 17) rfl)) (hw _ (List.mem_of_getElem? (i := 6) rfl)) (hw _ (List.mem_of_getElem? (i := 19) rfl)) E_u_DISCONNECT (by decide) at_44 (rm3 l Z a0 hw u_DISCONNECT u_REPLY u_ERROR h0 n0 Zs S_REPLY S_ERROR) eT pd_1 rfl (by rw [hml]; rfl) (by decide) 0 rfl (by decide) (by decide) (by decide) 47 rfl ?_
    intro T44 L9 v9 X hQ
    obtain ⟨rfl, N9, eT⟩ := hQ
    have N := Fr.app N N9
    show Go p e below _ T44 (mkF m 47 #[.val (.int p1), .val (.int (4 : Int32)), .val (.ref u_DISCONNECT), .val (.int (5 : Int32)), .val (.int (0 : Int32))] [(.int (f3 u_DISCONNECT u_REPLY u_ERROR))])
    refine own_iload X hx hby (0 : Int32) at_47 rfl 49 rfl ?_
    have c49 : (f3 u_DISCONNECT u_REPLY u_ERROR) = (0 : Int32) := by simp only [f3, if_neg nr_DISCONNECT, if_neg ns_DISCONNECT]
    refine own_icmp_ne X hx hby at_49 56 52 (by decide) rfl (fun q => absurd c49 q) (fun _ => ?_)
    refine own_iconst X hx hby (1 : Int32) at_52 rfl 53 rfl ?_
    refine own_goto X hx hby at_53 57 (by decide) ?_
    refine own_retN X hx hby hret hlk (t := .boolean) (z' := (1 : Int32)) (by simp) at_57 (by decide) (by decide) rfl ?_
    rw [eT]
    exact ⟨rfl, N⟩
  · skip
    refine own_iloadN X hx hby (5 : Int32) at_8 rfl 9 rfl ?_
    refine own_callS X hx hby hZ (st := []) [(.int (5 : Int32))] rfl hown (hw _ (List.mem_of_getElem? (i := 1) rfl)) (hw _ (List.mem_of_getElem? (i := 2) rfl)) (hw _ (List.mem_of_getElem? (i := 3) rfl)) (hw _ (List.mem_of_getElem? (i := 4) rfl)) (by decide) at_9 (rm1_5 l Z a0 hw u_ERROR h0 n0 Zs S_ERROR) eT pd_2 rfl (by rw [hml]; rfl) (by decide) 0 rfl (by decide) (by decide) (by decide) 12 rfl ?_
    intro T9 L9 v9 X hQ
    obtain ⟨rfl, N9, eT⟩ := hQ
    have N := Fr.app N N9
    show Go p e below _ T9 (mkF m 12 #[.val (.int p1), .val (.int (5 : Int32)), .unset, .unset, .unset] [(.ref u_ERROR)])
    refine own_astoreN X hx hby at_12 rfl (l' := #[.val (.int p1), .val (.int (5 : Int32)), .val (.ref u_ERROR), .unset, .unset]) rfl 13 rfl ?_
    refine own_aloadN X hx hby (.ref u_ERROR) at_13 rfl rfl 14 rfl ?_
    refine own_callV X hx hby hZ (st := []) [] rfl hown (hw _ (List.mem_of_getElem? (i := 8) rfl)) (hw _ (List.mem_of_getElem? (i := 9) rfl)) (hw _ (List.mem_of_getElem? (i := 11) rfl)) (hw _ (List.mem_of_getElem? (i := 10) rfl)) (hw _ (List.mem_of_getElem? (i := 6) rfl)) (hw _ (List.mem_of_getElem? (i := 12) rfl)) E_u_ERROR (by decide) at_14 (rm2 l Z a0 hw u_ERROR (6 : Int32) h0 n0 Zs F_code_u_ERROR) eT pd_0 rfl (by rw [hml]; rfl) (by decide) 0 rfl (by decide) (by decide) (by decide) 17 rfl ?_
    intro T14 L9 v9 X hQ
    obtain ⟨rfl, N9, eT⟩ := hQ
    have N := Fr.app N N9
    show Go p e below _ T14 (mkF m 17 #[.val (.int p1), .val (.int (5 : Int32)), .val (.ref u_ERROR), .unset, .unset] [(.int (6 : Int32))])
    refine own_istoreN X hx hby at_17 rfl (l' := #[.val (.int p1), .val (.int (5 : Int32)), .val (.ref u_ERROR), .val (.int (6 : Int32)), .unset]) rfl 18 rfl ?_
    refine own_iloadN X hx hby (6 : Int32) at_18 rfl 19 rfl ?_
    refine own_iconst X hx hby (3 : Int32) at_19 rfl 20 rfl ?_
    have c20 : ¬ (6 : Int32) = (3 : Int32) := by decide
    refine own_icmp_eq X hx hby at_20 29 23 (by decide) rfl (fun q => absurd q c20) (fun _ => ?_)
    refine own_iloadN X hx hby (6 : Int32) at_23 rfl 24 rfl ?_
    refine own_bipush X hx hby (6 : Int32) at_24 rfl 26 rfl ?_
    have c26 : (6 : Int32) = (6 : Int32) := by decide
    refine own_icmp_ne X hx hby at_26 33 29 (by decide) rfl (fun q => absurd c26 q) (fun _ => ?_)
    refine own_iconst X hx hby (1 : Int32) at_29 rfl 30 rfl ?_
    refine own_goto X hx hby at_30 34 (by decide) ?_
    refine own_istore X hx hby at_34 rfl (l' := #[.val (.int p1), .val (.int (5 : Int32)), .val (.ref u_ERROR), .val (.int (6 : Int32)), .val (.int (1 : Int32))]) rfl 36 rfl ?_
    refine own_iloadN X hx hby (6 : Int32) at_36 rfl 37 rfl ?_
    refine own_iloadN X hx hby (5 : Int32) at_37 rfl 38 rfl ?_
    refine own_iconst X hx hby (1 : Int32) at_38 rfl 39 rfl ?_
    refine own_iadd X hx hby at_39 40 rfl ?_
    refine own_top (v' := (.int (6 : Int32))) (congrArg Value.int (by decide)) ?_
    have c40 : (6 : Int32) = (6 : Int32) := by decide
    refine own_icmp_ne X hx hby at_40 56 43 (by decide) rfl (fun q => absurd c40 q) (fun _ => ?_)
    refine own_aloadN X hx hby (.ref u_ERROR) at_43 rfl rfl 44 rfl ?_
    refine own_callV X hx hby hZ (st := []) [] rfl hown (hw _ (List.mem_of_getElem? (i := 15) rfl)) (hw _ (List.mem_of_getElem? (i := 16) rfl)) (hw _ (List.mem_of_getElem? (i := 18) rfl)) (hw _ (List.mem_of_getElem? (i := 17) rfl)) (hw _ (List.mem_of_getElem? (i := 6) rfl)) (hw _ (List.mem_of_getElem? (i := 19) rfl)) E_u_ERROR (by decide) at_44 (rm3 l Z a0 hw u_ERROR u_REPLY u_ERROR h0 n0 Zs S_REPLY S_ERROR) eT pd_1 rfl (by rw [hml]; rfl) (by decide) 0 rfl (by decide) (by decide) (by decide) 47 rfl ?_
    intro T44 L9 v9 X hQ
    obtain ⟨rfl, N9, eT⟩ := hQ
    have N := Fr.app N N9
    show Go p e below _ T44 (mkF m 47 #[.val (.int p1), .val (.int (5 : Int32)), .val (.ref u_ERROR), .val (.int (6 : Int32)), .val (.int (1 : Int32))] [(.int (f3 u_ERROR u_REPLY u_ERROR))])
    refine own_iload X hx hby (1 : Int32) at_47 rfl 49 rfl ?_
    have c49 : (f3 u_ERROR u_REPLY u_ERROR) = (1 : Int32) := by simp [f3]
    refine own_icmp_ne X hx hby at_49 56 52 (by decide) rfl (fun q => absurd c49 q) (fun _ => ?_)
    refine own_iconst X hx hby (1 : Int32) at_52 rfl 53 rfl ?_
    refine own_goto X hx hby at_53 57 (by decide) ?_
    refine own_retN X hx hby hret hlk (t := .boolean) (z' := (1 : Int32)) (by simp) at_57 (by decide) (by decide) rfl ?_
    rw [eT]
    exact ⟨rfl, N⟩
  · skip
    refine own_iloadN X hx hby (6 : Int32) at_8 rfl 9 rfl ?_
    refine own_callS X hx hby hZ (st := []) [(.int (6 : Int32))] rfl hown (hw _ (List.mem_of_getElem? (i := 1) rfl)) (hw _ (List.mem_of_getElem? (i := 2) rfl)) (hw _ (List.mem_of_getElem? (i := 3) rfl)) (hw _ (List.mem_of_getElem? (i := 4) rfl)) (by decide) at_9 (rm1_6 l Z a0 hw u_HEALTH h0 n0 Zs S_HEALTH) eT pd_2 rfl (by rw [hml]; rfl) (by decide) 0 rfl (by decide) (by decide) (by decide) 12 rfl ?_
    intro T9 L9 v9 X hQ
    obtain ⟨rfl, N9, eT⟩ := hQ
    have N := Fr.app N N9
    show Go p e below _ T9 (mkF m 12 #[.val (.int p1), .val (.int (6 : Int32)), .unset, .unset, .unset] [(.ref u_HEALTH)])
    refine own_astoreN X hx hby at_12 rfl (l' := #[.val (.int p1), .val (.int (6 : Int32)), .val (.ref u_HEALTH), .unset, .unset]) rfl 13 rfl ?_
    refine own_aloadN X hx hby (.ref u_HEALTH) at_13 rfl rfl 14 rfl ?_
    refine own_callV X hx hby hZ (st := []) [] rfl hown (hw _ (List.mem_of_getElem? (i := 8) rfl)) (hw _ (List.mem_of_getElem? (i := 9) rfl)) (hw _ (List.mem_of_getElem? (i := 11) rfl)) (hw _ (List.mem_of_getElem? (i := 10) rfl)) (hw _ (List.mem_of_getElem? (i := 6) rfl)) (hw _ (List.mem_of_getElem? (i := 12) rfl)) E_u_HEALTH (by decide) at_14 (rm2 l Z a0 hw u_HEALTH (7 : Int32) h0 n0 Zs F_code_u_HEALTH) eT pd_0 rfl (by rw [hml]; rfl) (by decide) 0 rfl (by decide) (by decide) (by decide) 17 rfl ?_
    intro T14 L9 v9 X hQ
    obtain ⟨rfl, N9, eT⟩ := hQ
    have N := Fr.app N N9
    show Go p e below _ T14 (mkF m 17 #[.val (.int p1), .val (.int (6 : Int32)), .val (.ref u_HEALTH), .unset, .unset] [(.int (7 : Int32))])
    refine own_istoreN X hx hby at_17 rfl (l' := #[.val (.int p1), .val (.int (6 : Int32)), .val (.ref u_HEALTH), .val (.int (7 : Int32)), .unset]) rfl 18 rfl ?_
    refine own_iloadN X hx hby (7 : Int32) at_18 rfl 19 rfl ?_
    refine own_iconst X hx hby (3 : Int32) at_19 rfl 20 rfl ?_
    have c20 : ¬ (7 : Int32) = (3 : Int32) := by decide
    refine own_icmp_eq X hx hby at_20 29 23 (by decide) rfl (fun q => absurd q c20) (fun _ => ?_)
    refine own_iloadN X hx hby (7 : Int32) at_23 rfl 24 rfl ?_
    refine own_bipush X hx hby (6 : Int32) at_24 rfl 26 rfl ?_
    have c26 : ¬ (7 : Int32) = (6 : Int32) := by decide
    refine own_icmp_ne X hx hby at_26 33 29 (by decide) rfl (fun _ => ?_) (fun q => absurd q c26)
    refine own_iconst X hx hby (0 : Int32) at_33 rfl 34 rfl ?_
    refine own_istore X hx hby at_34 rfl (l' := #[.val (.int p1), .val (.int (6 : Int32)), .val (.ref u_HEALTH), .val (.int (7 : Int32)), .val (.int (0 : Int32))]) rfl 36 rfl ?_
    refine own_iloadN X hx hby (7 : Int32) at_36 rfl 37 rfl ?_
    refine own_iloadN X hx hby (6 : Int32) at_37 rfl 38 rfl ?_
    refine own_iconst X hx hby (1 : Int32) at_38 rfl 39 rfl ?_
    refine own_iadd X hx hby at_39 40 rfl ?_
    refine own_top (v' := (.int (7 : Int32))) (congrArg Value.int (by decide)) ?_
    have c40 : (7 : Int32) = (7 : Int32) := by decide
    refine own_icmp_ne X hx hby at_40 56 43 (by decide) rfl (fun q => absurd c40 q) (fun _ => ?_)
    refine own_aloadN X hx hby (.ref u_HEALTH) at_43 rfl rfl 44 rfl ?_
    refine own_callV X hx hby hZ (st := []) [] rfl hown (hw _ (List.mem_of_getElem? (i := 15) rfl)) (hw _ (List.mem_of_getElem? (i := 16) rfl)) (hw _ (List.mem_of_getElem? (i := 18) rfl)) (hw _ (List.mem_of_getElem? (i := 17) rfl)) (hw _ (List.mem_of_getElem? (i := 6) rfl)) (hw _ (List.mem_of_getElem? (i := 19) rfl)) E_u_HEALTH (by decide) at_44 (rm3 l Z a0 hw u_HEALTH u_REPLY u_ERROR h0 n0 Zs S_REPLY S_ERROR) eT pd_1 rfl (by rw [hml]; rfl) (by decide) 0 rfl (by decide) (by decide) (by decide) 47 rfl ?_
    intro T44 L9 v9 X hQ
    obtain ⟨rfl, N9, eT⟩ := hQ
    have N := Fr.app N N9
    show Go p e below _ T44 (mkF m 47 #[.val (.int p1), .val (.int (6 : Int32)), .val (.ref u_HEALTH), .val (.int (7 : Int32)), .val (.int (0 : Int32))] [(.int (f3 u_HEALTH u_REPLY u_ERROR))])
    refine own_iload X hx hby (0 : Int32) at_47 rfl 49 rfl ?_
    have c49 : (f3 u_HEALTH u_REPLY u_ERROR) = (0 : Int32) := by simp only [f3, if_neg nr_HEALTH, if_neg ns_HEALTH]
    refine own_icmp_ne X hx hby at_49 56 52 (by decide) rfl (fun q => absurd c49 q) (fun _ => ?_)
    refine own_iconst X hx hby (1 : Int32) at_52 rfl 53 rfl ?_
    refine own_goto X hx hby at_53 57 (by decide) ?_
    refine own_retN X hx hby hret hlk (t := .boolean) (z' := (1 : Int32)) (by simp) at_57 (by decide) (by decide) rfl ?_
    rw [eT]
    exact ⟨rfl, N⟩
  · skip
    refine own_iloadN X hx hby (7 : Int32) at_8 rfl 9 rfl ?_
    refine own_callS X hx hby hZ (st := []) [(.int (7 : Int32))] rfl hown (hw _ (List.mem_of_getElem? (i := 1) rfl)) (hw _ (List.mem_of_getElem? (i := 2) rfl)) (hw _ (List.mem_of_getElem? (i := 3) rfl)) (hw _ (List.mem_of_getElem? (i := 4) rfl)) (by decide) at_9 (rm1_7 l Z a0 hw u_SUBSCRIBE h0 n0 Zs S_SUBSCRIBE) eT pd_2 rfl (by rw [hml]; rfl) (by decide) 0 rfl (by decide) (by decide) (by decide) 12 rfl ?_
    intro T9 L9 v9 X hQ
    obtain ⟨rfl, N9, eT⟩ := hQ
    have N := Fr.app N N9
    show Go p e below _ T9 (mkF m 12 #[.val (.int p1), .val (.int (7 : Int32)), .unset, .unset, .unset] [(.ref u_SUBSCRIBE)])
    refine own_astoreN X hx hby at_12 rfl (l' := #[.val (.int p1), .val (.int (7 : Int32)), .val (.ref u_SUBSCRIBE), .unset, .unset]) rfl 13 rfl ?_
    refine own_aloadN X hx hby (.ref u_SUBSCRIBE) at_13 rfl rfl 14 rfl ?_
    refine own_callV X hx hby hZ (st := []) [] rfl hown (hw _ (List.mem_of_getElem? (i := 8) rfl)) (hw _ (List.mem_of_getElem? (i := 9) rfl)) (hw _ (List.mem_of_getElem? (i := 11) rfl)) (hw _ (List.mem_of_getElem? (i := 10) rfl)) (hw _ (List.mem_of_getElem? (i := 6) rfl)) (hw _ (List.mem_of_getElem? (i := 12) rfl)) E_u_SUBSCRIBE (by decide) at_14 (rm2 l Z a0 hw u_SUBSCRIBE (8 : Int32) h0 n0 Zs F_code_u_SUBSCRIBE) eT pd_0 rfl (by rw [hml]; rfl) (by decide) 0 rfl (by decide) (by decide) (by decide) 17 rfl ?_
    intro T14 L9 v9 X hQ
    obtain ⟨rfl, N9, eT⟩ := hQ
    have N := Fr.app N N9
    show Go p e below _ T14 (mkF m 17 #[.val (.int p1), .val (.int (7 : Int32)), .val (.ref u_SUBSCRIBE), .unset, .unset] [(.int (8 : Int32))])
    refine own_istoreN X hx hby at_17 rfl (l' := #[.val (.int p1), .val (.int (7 : Int32)), .val (.ref u_SUBSCRIBE), .val (.int (8 : Int32)), .unset]) rfl 18 rfl ?_
    refine own_iloadN X hx hby (8 : Int32) at_18 rfl 19 rfl ?_
    refine own_iconst X hx hby (3 : Int32) at_19 rfl 20 rfl ?_
    have c20 : ¬ (8 : Int32) = (3 : Int32) := by decide
    refine own_icmp_eq X hx hby at_20 29 23 (by decide) rfl (fun q => absurd q c20) (fun _ => ?_)
    refine own_iloadN X hx hby (8 : Int32) at_23 rfl 24 rfl ?_
    refine own_bipush X hx hby (6 : Int32) at_24 rfl 26 rfl ?_
    have c26 : ¬ (8 : Int32) = (6 : Int32) := by decide
    refine own_icmp_ne X hx hby at_26 33 29 (by decide) rfl (fun _ => ?_) (fun q => absurd q c26)
    refine own_iconst X hx hby (0 : Int32) at_33 rfl 34 rfl ?_
    refine own_istore X hx hby at_34 rfl (l' := #[.val (.int p1), .val (.int (7 : Int32)), .val (.ref u_SUBSCRIBE), .val (.int (8 : Int32)), .val (.int (0 : Int32))]) rfl 36 rfl ?_
    refine own_iloadN X hx hby (8 : Int32) at_36 rfl 37 rfl ?_
    refine own_iloadN X hx hby (7 : Int32) at_37 rfl 38 rfl ?_
    refine own_iconst X hx hby (1 : Int32) at_38 rfl 39 rfl ?_
    refine own_iadd X hx hby at_39 40 rfl ?_
    refine own_top (v' := (.int (8 : Int32))) (congrArg Value.int (by decide)) ?_
    have c40 : (8 : Int32) = (8 : Int32) := by decide
    refine own_icmp_ne X hx hby at_40 56 43 (by decide) rfl (fun q => absurd c40 q) (fun _ => ?_)
    refine own_aloadN X hx hby (.ref u_SUBSCRIBE) at_43 rfl rfl 44 rfl ?_
    refine own_callV X hx hby hZ (st := []) [] rfl hown (hw _ (List.mem_of_getElem? (i := 15) rfl)) (hw _ (List.mem_of_getElem? (i := 16) rfl)) (hw _ (List.mem_of_getElem? (i := 18) rfl)) (hw _ (List.mem_of_getElem? (i := 17) rfl)) (hw _ (List.mem_of_getElem? (i := 6) rfl)) (hw _ (List.mem_of_getElem? (i := 19) rfl)) E_u_SUBSCRIBE (by decide) at_44 (rm3 l Z a0 hw u_SUBSCRIBE u_REPLY u_ERROR h0 n0 Zs S_REPLY S_ERROR) eT pd_1 rfl (by rw [hml]; rfl) (by decide) 0 rfl (by decide) (by decide) (by decide) 47 rfl ?_
    intro T44 L9 v9 X hQ
    obtain ⟨rfl, N9, eT⟩ := hQ
    have N := Fr.app N N9
    show Go p e below _ T44 (mkF m 47 #[.val (.int p1), .val (.int (7 : Int32)), .val (.ref u_SUBSCRIBE), .val (.int (8 : Int32)), .val (.int (0 : Int32))] [(.int (f3 u_SUBSCRIBE u_REPLY u_ERROR))])
    refine own_iload X hx hby (0 : Int32) at_47 rfl 49 rfl ?_
    have c49 : (f3 u_SUBSCRIBE u_REPLY u_ERROR) = (0 : Int32) := by simp only [f3, if_neg nr_SUBSCRIBE, if_neg ns_SUBSCRIBE]
    refine own_icmp_ne X hx hby at_49 56 52 (by decide) rfl (fun q => absurd c49 q) (fun _ => ?_)
    refine own_iconst X hx hby (1 : Int32) at_52 rfl 53 rfl ?_
    refine own_goto X hx hby at_53 57 (by decide) ?_
    refine own_retN X hx hby hret hlk (t := .boolean) (z' := (1 : Int32)) (by simp) at_57 (by decide) (by decide) rfl ?_
    rw [eT]
    exact ⟨rfl, N⟩
  · skip
    refine own_iloadN X hx hby (8 : Int32) at_8 rfl 9 rfl ?_
    refine own_callS X hx hby hZ (st := []) [(.int (8 : Int32))] rfl hown (hw _ (List.mem_of_getElem? (i := 1) rfl)) (hw _ (List.mem_of_getElem? (i := 2) rfl)) (hw _ (List.mem_of_getElem? (i := 3) rfl)) (hw _ (List.mem_of_getElem? (i := 4) rfl)) (by decide) at_9 (rm1_8 l Z a0 hw u_PUBLISH h0 n0 Zs S_PUBLISH) eT pd_2 rfl (by rw [hml]; rfl) (by decide) 0 rfl (by decide) (by decide) (by decide) 12 rfl ?_
    intro T9 L9 v9 X hQ
    obtain ⟨rfl, N9, eT⟩ := hQ
    have N := Fr.app N N9
    show Go p e below _ T9 (mkF m 12 #[.val (.int p1), .val (.int (8 : Int32)), .unset, .unset, .unset] [(.ref u_PUBLISH)])
    refine own_astoreN X hx hby at_12 rfl (l' := #[.val (.int p1), .val (.int (8 : Int32)), .val (.ref u_PUBLISH), .unset, .unset]) rfl 13 rfl ?_
    refine own_aloadN X hx hby (.ref u_PUBLISH) at_13 rfl rfl 14 rfl ?_
    refine own_callV X hx hby hZ (st := []) [] rfl hown (hw _ (List.mem_of_getElem? (i := 8) rfl)) (hw _ (List.mem_of_getElem? (i := 9) rfl)) (hw _ (List.mem_of_getElem? (i := 11) rfl)) (hw _ (List.mem_of_getElem? (i := 10) rfl)) (hw _ (List.mem_of_getElem? (i := 6) rfl)) (hw _ (List.mem_of_getElem? (i := 12) rfl)) E_u_PUBLISH (by decide) at_14 (rm2 l Z a0 hw u_PUBLISH (9 : Int32) h0 n0 Zs F_code_u_PUBLISH) eT pd_0 rfl (by rw [hml]; rfl) (by decide) 0 rfl (by decide) (by decide) (by decide) 17 rfl ?_
    intro T14 L9 v9 X hQ
    obtain ⟨rfl, N9, eT⟩ := hQ
    have N := Fr.app N N9
    show Go p e below _ T14 (mkF m 17 #[.val (.int p1), .val (.int (8 : Int32)), .val (.ref u_PUBLISH), .unset, .unset] [(.int (9 : Int32))])
    refine own_istoreN X hx hby at_17 rfl (l' := #[.val (.int p1), .val (.int (8 : Int32)), .val (.ref u_PUBLISH), .val (.int (9 : Int32)), .unset]) rfl 18 rfl ?_
    refine own_iloadN X hx hby (9 : Int32) at_18 rfl 19 rfl ?_
    refine own_iconst X hx hby (3 : Int32) at_19 rfl 20 rfl ?_
    have c20 : ¬ (9 : Int32) = (3 : Int32) := by decide
    refine own_icmp_eq X hx hby at_20 29 23 (by decide) rfl (fun q => absurd q c20) (fun _ => ?_)
    refine own_iloadN X hx hby (9 : Int32) at_23 rfl 24 rfl ?_
    refine own_bipush X hx hby (6 : Int32) at_24 rfl 26 rfl ?_
    have c26 : ¬ (9 : Int32) = (6 : Int32) := by decide
    refine own_icmp_ne X hx hby at_26 33 29 (by decide) rfl (fun _ => ?_) (fun q => absurd q c26)
    refine own_iconst X hx hby (0 : Int32) at_33 rfl 34 rfl ?_
    refine own_istore X hx hby at_34 rfl (l' := #[.val (.int p1), .val (.int (8 : Int32)), .val (.ref u_PUBLISH), .val (.int (9 : Int32)), .val (.int (0 : Int32))]) rfl 36 rfl ?_
    refine own_iloadN X hx hby (9 : Int32) at_36 rfl 37 rfl ?_
    refine own_iloadN X hx hby (8 : Int32) at_37 rfl 38 rfl ?_
    refine own_iconst X hx hby (1 : Int32) at_38 rfl 39 rfl ?_
    refine own_iadd X hx hby at_39 40 rfl ?_
    refine own_top (v' := (.int (9 : Int32))) (congrArg Value.int (by decide)) ?_
    have c40 : (9 : Int32) = (9 : Int32) := by decide
    refine own_icmp_ne X hx hby at_40 56 43 (by decide) rfl (fun q => absurd c40 q) (fun _ => ?_)
    refine own_aloadN X hx hby (.ref u_PUBLISH) at_43 rfl rfl 44 rfl ?_
    refine own_callV X hx hby hZ (st := []) [] rfl hown (hw _ (List.mem_of_getElem? (i := 15) rfl)) (hw _ (List.mem_of_getElem? (i := 16) rfl)) (hw _ (List.mem_of_getElem? (i := 18) rfl)) (hw _ (List.mem_of_getElem? (i := 17) rfl)) (hw _ (List.mem_of_getElem? (i := 6) rfl)) (hw _ (List.mem_of_getElem? (i := 19) rfl)) E_u_PUBLISH (by decide) at_44 (rm3 l Z a0 hw u_PUBLISH u_REPLY u_ERROR h0 n0 Zs S_REPLY S_ERROR) eT pd_1 rfl (by rw [hml]; rfl) (by decide) 0 rfl (by decide) (by decide) (by decide) 47 rfl ?_
    intro T44 L9 v9 X hQ
    obtain ⟨rfl, N9, eT⟩ := hQ
    have N := Fr.app N N9
    show Go p e below _ T44 (mkF m 47 #[.val (.int p1), .val (.int (8 : Int32)), .val (.ref u_PUBLISH), .val (.int (9 : Int32)), .val (.int (0 : Int32))] [(.int (f3 u_PUBLISH u_REPLY u_ERROR))])
    refine own_iload X hx hby (0 : Int32) at_47 rfl 49 rfl ?_
    have c49 : (f3 u_PUBLISH u_REPLY u_ERROR) = (0 : Int32) := by simp only [f3, if_neg nr_PUBLISH, if_neg ns_PUBLISH]
    refine own_icmp_ne X hx hby at_49 56 52 (by decide) rfl (fun q => absurd c49 q) (fun _ => ?_)
    refine own_iconst X hx hby (1 : Int32) at_52 rfl 53 rfl ?_
    refine own_goto X hx hby at_53 57 (by decide) ?_
    refine own_retN X hx hby hret hlk (t := .boolean) (z' := (1 : Int32)) (by simp) at_57 (by decide) (by decide) rfl ?_
    rw [eT]
    exact ⟨rfl, N⟩
  · skip
    refine own_iloadN X hx hby (9 : Int32) at_8 rfl 9 rfl ?_
    refine own_callS X hx hby hZ (st := []) [(.int (9 : Int32))] rfl hown (hw _ (List.mem_of_getElem? (i := 1) rfl)) (hw _ (List.mem_of_getElem? (i := 2) rfl)) (hw _ (List.mem_of_getElem? (i := 3) rfl)) (hw _ (List.mem_of_getElem? (i := 4) rfl)) (by decide) at_9 (rm1_9 l Z a0 hw u_RECEIVED h0 n0 Zs S_RECEIVED) eT pd_2 rfl (by rw [hml]; rfl) (by decide) 0 rfl (by decide) (by decide) (by decide) 12 rfl ?_
    intro T9 L9 v9 X hQ
    obtain ⟨rfl, N9, eT⟩ := hQ
    have N := Fr.app N N9
    show Go p e below _ T9 (mkF m 12 #[.val (.int p1), .val (.int (9 : Int32)), .unset, .unset, .unset] [(.ref u_RECEIVED)])
    refine own_astoreN X hx hby at_12 rfl (l' := #[.val (.int p1), .val (.int (9 : Int32)), .val (.ref u_RECEIVED), .unset, .unset]) rfl 13 rfl ?_
    refine own_aloadN X hx hby (.ref u_RECEIVED) at_13 rfl rfl 14 rfl ?_
    refine own_callV X hx hby hZ (st := []) [] rfl hown (hw _ (List.mem_of_getElem? (i := 8) rfl)) (hw _ (List.mem_of_getElem? (i := 9) rfl)) (hw _ (List.mem_of_getElem? (i := 11) rfl)) (hw _ (List.mem_of_getElem? (i := 10) rfl)) (hw _ (List.mem_of_getElem? (i := 6) rfl)) (hw _ (List.mem_of_getElem? (i := 12) rfl)) E_u_RECEIVED (by decide) at_14 (rm2 l Z a0 hw u_RECEIVED (10 : Int32) h0 n0 Zs F_code_u_RECEIVED) eT pd_0 rfl (by rw [hml]; rfl) (by decide) 0 rfl (by decide) (by decide) (by decide) 17 rfl ?_
    intro T14 L9 v9 X hQ
    obtain ⟨rfl, N9, eT⟩ := hQ
    have N := Fr.app N N9
    show Go p e below _ T14 (mkF m 17 #[.val (.int p1), .val (.int (9 : Int32)), .val (.ref u_RECEIVED), .unset, .unset] [(.int (10 : Int32))])
    refine own_istoreN X hx hby at_17 rfl (l' := #[.val (.int p1), .val (.int (9 : Int32)), .val (.ref u_RECEIVED), .val (.int (10 : Int32)), .unset]) rfl 18 rfl ?_
    refine own_iloadN X hx hby (10 : Int32) at_18 rfl 19 rfl ?_
    refine own_iconst X hx hby (3 : Int32) at_19 rfl 20 rfl ?_
    have c20 : ¬ (10 : Int32) = (3 : Int32) := by decide
    refine own_icmp_eq X hx hby at_20 29 23 (by decide) rfl (fun q => absurd q c20) (fun _ => ?_)
    refine own_iloadN X hx hby (10 : Int32) at_23 rfl 24 rfl ?_
    refine own_bipush X hx hby (6 : Int32) at_24 rfl 26 rfl ?_
    have c26 : ¬ (10 : Int32) = (6 : Int32) := by decide
    refine own_icmp_ne X hx hby at_26 33 29 (by decide) rfl (fun _ => ?_) (fun q => absurd q c26)
    refine own_iconst X hx hby (0 : Int32) at_33 rfl 34 rfl ?_
    refine own_istore X hx hby at_34 rfl (l' := #[.val (.int p1), .val (.int (9 : Int32)), .val (.ref u_RECEIVED), .val (.int (10 : Int32)), .val (.int (0 : Int32))]) rfl 36 rfl ?_
    refine own_iloadN X hx hby (10 : Int32) at_36 rfl 37 rfl ?_
    refine own_iloadN X hx hby (9 : Int32) at_37 rfl 38 rfl ?_
    refine own_iconst X hx hby (1 : Int32) at_38 rfl 39 rfl ?_
    refine own_iadd X hx hby at_39 40 rfl ?_
    refine own_top (v' := (.int (10 : Int32))) (congrArg Value.int (by decide)) ?_
    have c40 : (10 : Int32) = (10 : Int32) := by decide
    refine own_icmp_ne X hx hby at_40 56 43 (by decide) rfl (fun q => absurd c40 q) (fun _ => ?_)
    refine own_aloadN X hx hby (.ref u_RECEIVED) at_43 rfl rfl 44 rfl ?_
    refine own_callV X hx hby hZ (st := []) [] rfl hown (hw _ (List.mem_of_getElem? (i := 15) rfl)) (hw _ (List.mem_of_getElem? (i := 16) rfl)) (hw _ (List.mem_of_getElem? (i := 18) rfl)) (hw _ (List.mem_of_getElem? (i := 17) rfl)) (hw _ (List.mem_of_getElem? (i := 6) rfl)) (hw _ (List.mem_of_getElem? (i := 19) rfl)) E_u_RECEIVED (by decide) at_44 (rm3 l Z a0 hw u_RECEIVED u_REPLY u_ERROR h0 n0 Zs S_REPLY S_ERROR) eT pd_1 rfl (by rw [hml]; rfl) (by decide) 0 rfl (by decide) (by decide) (by decide) 47 rfl ?_
    intro T44 L9 v9 X hQ
    obtain ⟨rfl, N9, eT⟩ := hQ
    have N := Fr.app N N9
    show Go p e below _ T44 (mkF m 47 #[.val (.int p1), .val (.int (9 : Int32)), .val (.ref u_RECEIVED), .val (.int (10 : Int32)), .val (.int (0 : Int32))] [(.int (f3 u_RECEIVED u_REPLY u_ERROR))])
    refine own_iload X hx hby (0 : Int32) at_47 rfl 49 rfl ?_
    have c49 : (f3 u_RECEIVED u_REPLY u_ERROR) = (0 : Int32) := by simp only [f3, if_neg nr_RECEIVED, if_neg ns_RECEIVED]
    refine own_icmp_ne X hx hby at_49 56 52 (by decide) rfl (fun q => absurd c49 q) (fun _ => ?_)
    refine own_iconst X hx hby (1 : Int32) at_52 rfl 53 rfl ?_
    refine own_goto X hx hby at_53 57 (by decide) ?_
    refine own_retN X hx hby hret hlk (t := .boolean) (z' := (1 : Int32)) (by simp) at_57 (by decide) (by decide) rfl ?_
    rw [eT]
    exact ⟨rfl, N⟩
  · skip
    refine own_iloadN X hx hby (10 : Int32) at_8 rfl 9 rfl ?_
    refine own_callS X hx hby hZ (st := []) [(.int (10 : Int32))] rfl hown (hw _ (List.mem_of_getElem? (i := 1) rfl)) (hw _ (List.mem_of_getElem? (i := 2) rfl)) (hw _ (List.mem_of_getElem? (i := 3) rfl)) (hw _ (List.mem_of_getElem? (i := 4) rfl)) (by decide) at_9 (rm1_10 l Z a0 hw u_HOLD h0 n0 Zs S_HOLD) eT pd_2 rfl (by rw [hml]; rfl) (by decide) 0 rfl (by decide) (by decide) (by decide) 12 rfl ?_
    intro T9 L9 v9 X hQ
    obtain ⟨rfl, N9, eT⟩ := hQ
    have N := Fr.app N N9
    show Go p e below _ T9 (mkF m 12 #[.val (.int p1), .val (.int (10 : Int32)), .unset, .unset, .unset] [(.ref u_HOLD)])
    refine own_astoreN X hx hby at_12 rfl (l' := #[.val (.int p1), .val (.int (10 : Int32)), .val (.ref u_HOLD), .unset, .unset]) rfl 13 rfl ?_
    refine own_aloadN X hx hby (.ref u_HOLD) at_13 rfl rfl 14 rfl ?_
    refine own_callV X hx hby hZ (st := []) [] rfl hown (hw _ (List.mem_of_getElem? (i := 8) rfl)) (hw _ (List.mem_of_getElem? (i := 9) rfl)) (hw _ (List.mem_of_getElem? (i := 11) rfl)) (hw _ (List.mem_of_getElem? (i := 10) rfl)) (hw _ (List.mem_of_getElem? (i := 6) rfl)) (hw _ (List.mem_of_getElem? (i := 12) rfl)) E_u_HOLD (by decide) at_14 (rm2 l Z a0 hw u_HOLD (11 : Int32) h0 n0 Zs F_code_u_HOLD) eT pd_0 rfl (by rw [hml]; rfl) (by decide) 0 rfl (by decide) (by decide) (by decide) 17 rfl ?_
    intro T14 L9 v9 X hQ
    obtain ⟨rfl, N9, eT⟩ := hQ
    have N := Fr.app N N9
    show Go p e below _ T14 (mkF m 17 #[.val (.int p1), .val (.int (10 : Int32)), .val (.ref u_HOLD), .unset, .unset] [(.int (11 : Int32))])
    refine own_istoreN X hx hby at_17 rfl (l' := #[.val (.int p1), .val (.int (10 : Int32)), .val (.ref u_HOLD), .val (.int (11 : Int32)), .unset]) rfl 18 rfl ?_
    refine own_iloadN X hx hby (11 : Int32) at_18 rfl 19 rfl ?_
    refine own_iconst X hx hby (3 : Int32) at_19 rfl 20 rfl ?_
    have c20 : ¬ (11 : Int32) = (3 : Int32) := by decide
    refine own_icmp_eq X hx hby at_20 29 23 (by decide) rfl (fun q => absurd q c20) (fun _ => ?_)
    refine own_iloadN X hx hby (11 : Int32) at_23 rfl 24 rfl ?_
    refine own_bipush X hx hby (6 : Int32) at_24 rfl 26 rfl ?_
    have c26 : ¬ (11 : Int32) = (6 : Int32) := by decide
    refine own_icmp_ne X hx hby at_26 33 29 (by decide) rfl (fun _ => ?_) (fun q => absurd q c26)
    refine own_iconst X hx hby (0 : Int32) at_33 rfl 34 rfl ?_
    refine own_istore X hx hby at_34 rfl (l' := #[.val (.int p1), .val (.int (10 : Int32)), .val (.ref u_HOLD), .val (.int (11 : Int32)), .val (.int (0 : Int32))]) rfl 36 rfl ?_
    refine own_iloadN X hx hby (11 : Int32) at_36 rfl 37 rfl ?_
    refine own_iloadN X hx hby (10 : Int32) at_37 rfl 38 rfl ?_
    refine own_iconst X hx hby (1 : Int32) at_38 rfl 39 rfl ?_
    refine own_iadd X hx hby at_39 40 rfl ?_
    refine own_top (v' := (.int (11 : Int32))) (congrArg Value.int (by decide)) ?_
    have c40 : (11 : Int32) = (11 : Int32) := by decide
    refine own_icmp_ne X hx hby at_40 56 43 (by decide) rfl (fun q => absurd c40 q) (fun _ => ?_)
    refine own_aloadN X hx hby (.ref u_HOLD) at_43 rfl rfl 44 rfl ?_
    refine own_callV X hx hby hZ (st := []) [] rfl hown (hw _ (List.mem_of_getElem? (i := 15) rfl)) (hw _ (List.mem_of_getElem? (i := 16) rfl)) (hw _ (List.mem_of_getElem? (i := 18) rfl)) (hw _ (List.mem_of_getElem? (i := 17) rfl)) (hw _ (List.mem_of_getElem? (i := 6) rfl)) (hw _ (List.mem_of_getElem? (i := 19) rfl)) E_u_HOLD (by decide) at_44 (rm3 l Z a0 hw u_HOLD u_REPLY u_ERROR h0 n0 Zs S_REPLY S_ERROR) eT pd_1 rfl (by rw [hml]; rfl) (by decide) 0 rfl (by decide) (by decide) (by decide) 47 rfl ?_
    intro T44 L9 v9 X hQ
    obtain ⟨rfl, N9, eT⟩ := hQ
    have N := Fr.app N N9
    show Go p e below _ T44 (mkF m 47 #[.val (.int p1), .val (.int (10 : Int32)), .val (.ref u_HOLD), .val (.int (11 : Int32)), .val (.int (0 : Int32))] [(.int (f3 u_HOLD u_REPLY u_ERROR))])
    refine own_iload X hx hby (0 : Int32) at_47 rfl 49 rfl ?_
    have c49 : (f3 u_HOLD u_REPLY u_ERROR) = (0 : Int32) := by simp only [f3, if_neg nr_HOLD, if_neg ns_HOLD]
    refine own_icmp_ne X hx hby at_49 56 52 (by decide) rfl (fun q => absurd c49 q) (fun _ => ?_)
    refine own_iconst X hx hby (1 : Int32) at_52 rfl 53 rfl ?_
    refine own_goto X hx hby at_53 57 (by decide) ?_
    refine own_retN X hx hby hret hlk (t := .boolean) (z' := (1 : Int32)) (by simp) at_57 (by decide) (by decide) rfl ?_
    rw [eT]
    exact ⟨rfl, N⟩
  · skip
    refine own_iloadN X hx hby (11 : Int32) at_8 rfl 9 rfl ?_
    refine own_callS X hx hby hZ (st := []) [(.int (11 : Int32))] rfl hown (hw _ (List.mem_of_getElem? (i := 1) rfl)) (hw _ (List.mem_of_getElem? (i := 2) rfl)) (hw _ (List.mem_of_getElem? (i := 3) rfl)) (hw _ (List.mem_of_getElem? (i := 4) rfl)) (by decide) at_9 (rm1_11 l Z a0 hw u_GONE h0 n0 Zs S_GONE) eT pd_2 rfl (by rw [hml]; rfl) (by decide) 0 rfl (by decide) (by decide) (by decide) 12 rfl ?_
    intro T9 L9 v9 X hQ
    obtain ⟨rfl, N9, eT⟩ := hQ
    have N := Fr.app N N9
    show Go p e below _ T9 (mkF m 12 #[.val (.int p1), .val (.int (11 : Int32)), .unset, .unset, .unset] [(.ref u_GONE)])
    refine own_astoreN X hx hby at_12 rfl (l' := #[.val (.int p1), .val (.int (11 : Int32)), .val (.ref u_GONE), .unset, .unset]) rfl 13 rfl ?_
    refine own_aloadN X hx hby (.ref u_GONE) at_13 rfl rfl 14 rfl ?_
    refine own_callV X hx hby hZ (st := []) [] rfl hown (hw _ (List.mem_of_getElem? (i := 8) rfl)) (hw _ (List.mem_of_getElem? (i := 9) rfl)) (hw _ (List.mem_of_getElem? (i := 11) rfl)) (hw _ (List.mem_of_getElem? (i := 10) rfl)) (hw _ (List.mem_of_getElem? (i := 6) rfl)) (hw _ (List.mem_of_getElem? (i := 12) rfl)) E_u_GONE (by decide) at_14 (rm2 l Z a0 hw u_GONE (12 : Int32) h0 n0 Zs F_code_u_GONE) eT pd_0 rfl (by rw [hml]; rfl) (by decide) 0 rfl (by decide) (by decide) (by decide) 17 rfl ?_
    intro T14 L9 v9 X hQ
    obtain ⟨rfl, N9, eT⟩ := hQ
    have N := Fr.app N N9
    show Go p e below _ T14 (mkF m 17 #[.val (.int p1), .val (.int (11 : Int32)), .val (.ref u_GONE), .unset, .unset] [(.int (12 : Int32))])
    refine own_istoreN X hx hby at_17 rfl (l' := #[.val (.int p1), .val (.int (11 : Int32)), .val (.ref u_GONE), .val (.int (12 : Int32)), .unset]) rfl 18 rfl ?_
    refine own_iloadN X hx hby (12 : Int32) at_18 rfl 19 rfl ?_
    refine own_iconst X hx hby (3 : Int32) at_19 rfl 20 rfl ?_
    have c20 : ¬ (12 : Int32) = (3 : Int32) := by decide
    refine own_icmp_eq X hx hby at_20 29 23 (by decide) rfl (fun q => absurd q c20) (fun _ => ?_)
    refine own_iloadN X hx hby (12 : Int32) at_23 rfl 24 rfl ?_
    refine own_bipush X hx hby (6 : Int32) at_24 rfl 26 rfl ?_
    have c26 : ¬ (12 : Int32) = (6 : Int32) := by decide
    refine own_icmp_ne X hx hby at_26 33 29 (by decide) rfl (fun _ => ?_) (fun q => absurd q c26)
    refine own_iconst X hx hby (0 : Int32) at_33 rfl 34 rfl ?_
    refine own_istore X hx hby at_34 rfl (l' := #[.val (.int p1), .val (.int (11 : Int32)), .val (.ref u_GONE), .val (.int (12 : Int32)), .val (.int (0 : Int32))]) rfl 36 rfl ?_
    refine own_iloadN X hx hby (12 : Int32) at_36 rfl 37 rfl ?_
    refine own_iloadN X hx hby (11 : Int32) at_37 rfl 38 rfl ?_
    refine own_iconst X hx hby (1 : Int32) at_38 rfl 39 rfl ?_
    refine own_iadd X hx hby at_39 40 rfl ?_
    refine own_top (v' := (.int (12 : Int32))) (congrArg Value.int (by decide)) ?_
    have c40 : (12 : Int32) = (12 : Int32) := by decide
    refine own_icmp_ne X hx hby at_40 56 43 (by decide) rfl (fun q => absurd c40 q) (fun _ => ?_)
    refine own_aloadN X hx hby (.ref u_GONE) at_43 rfl rfl 44 rfl ?_
    refine own_callV X hx hby hZ (st := []) [] rfl hown (hw _ (List.mem_of_getElem? (i := 15) rfl)) (hw _ (List.mem_of_getElem? (i := 16) rfl)) (hw _ (List.mem_of_getElem? (i := 18) rfl)) (hw _ (List.mem_of_getElem? (i := 17) rfl)) (hw _ (List.mem_of_getElem? (i := 6) rfl)) (hw _ (List.mem_of_getElem? (i := 19) rfl)) E_u_GONE (by decide) at_44 (rm3 l Z a0 hw u_GONE u_REPLY u_ERROR h0 n0 Zs S_REPLY S_ERROR) eT pd_1 rfl (by rw [hml]; rfl) (by decide) 0 rfl (by decide) (by decide) (by decide) 47 rfl ?_
    intro T44 L9 v9 X hQ
    obtain ⟨rfl, N9, eT⟩ := hQ
    have N := Fr.app N N9
    show Go p e below _ T44 (mkF m 47 #[.val (.int p1), .val (.int (11 : Int32)), .val (.ref u_GONE), .val (.int (12 : Int32)), .val (.int (0 : Int32))] [(.int (f3 u_GONE u_REPLY u_ERROR))])
    refine own_iload X hx hby (0 : Int32) at_47 rfl 49 rfl ?_
    have c49 : (f3 u_GONE u_REPLY u_ERROR) = (0 : Int32) := by simp only [f3, if_neg nr_GONE, if_neg ns_GONE]
    refine own_icmp_ne X hx hby at_49 56 52 (by decide) rfl (fun q => absurd c49 q) (fun _ => ?_)
    refine own_iconst X hx hby (1 : Int32) at_52 rfl 53 rfl ?_
    refine own_goto X hx hby at_53 57 (by decide) ?_
    refine own_retN X hx hby hret hlk (t := .boolean) (z' := (1 : Int32)) (by simp) at_57 (by decide) (by decide) rfl ?_
    rw [eT]
    exact ⟨rfl, N⟩
  · skip
    refine own_iloadN X hx hby (12 : Int32) at_8 rfl 9 rfl ?_
    refine own_callS X hx hby hZ (st := []) [(.int (12 : Int32))] rfl hown (hw _ (List.mem_of_getElem? (i := 1) rfl)) (hw _ (List.mem_of_getElem? (i := 2) rfl)) (hw _ (List.mem_of_getElem? (i := 3) rfl)) (hw _ (List.mem_of_getElem? (i := 4) rfl)) (by decide) at_9 (rm1_12 l Z a0 hw u_GET h0 n0 Zs S_GET) eT pd_2 rfl (by rw [hml]; rfl) (by decide) 0 rfl (by decide) (by decide) (by decide) 12 rfl ?_
    intro T9 L9 v9 X hQ
    obtain ⟨rfl, N9, eT⟩ := hQ
    have N := Fr.app N N9
    show Go p e below _ T9 (mkF m 12 #[.val (.int p1), .val (.int (12 : Int32)), .unset, .unset, .unset] [(.ref u_GET)])
    refine own_astoreN X hx hby at_12 rfl (l' := #[.val (.int p1), .val (.int (12 : Int32)), .val (.ref u_GET), .unset, .unset]) rfl 13 rfl ?_
    refine own_aloadN X hx hby (.ref u_GET) at_13 rfl rfl 14 rfl ?_
    refine own_callV X hx hby hZ (st := []) [] rfl hown (hw _ (List.mem_of_getElem? (i := 8) rfl)) (hw _ (List.mem_of_getElem? (i := 9) rfl)) (hw _ (List.mem_of_getElem? (i := 11) rfl)) (hw _ (List.mem_of_getElem? (i := 10) rfl)) (hw _ (List.mem_of_getElem? (i := 6) rfl)) (hw _ (List.mem_of_getElem? (i := 12) rfl)) E_u_GET (by decide) at_14 (rm2 l Z a0 hw u_GET (13 : Int32) h0 n0 Zs F_code_u_GET) eT pd_0 rfl (by rw [hml]; rfl) (by decide) 0 rfl (by decide) (by decide) (by decide) 17 rfl ?_
    intro T14 L9 v9 X hQ
    obtain ⟨rfl, N9, eT⟩ := hQ
    have N := Fr.app N N9
    show Go p e below _ T14 (mkF m 17 #[.val (.int p1), .val (.int (12 : Int32)), .val (.ref u_GET), .unset, .unset] [(.int (13 : Int32))])
    refine own_istoreN X hx hby at_17 rfl (l' := #[.val (.int p1), .val (.int (12 : Int32)), .val (.ref u_GET), .val (.int (13 : Int32)), .unset]) rfl 18 rfl ?_
    refine own_iloadN X hx hby (13 : Int32) at_18 rfl 19 rfl ?_
    refine own_iconst X hx hby (3 : Int32) at_19 rfl 20 rfl ?_
    have c20 : ¬ (13 : Int32) = (3 : Int32) := by decide
    refine own_icmp_eq X hx hby at_20 29 23 (by decide) rfl (fun q => absurd q c20) (fun _ => ?_)
    refine own_iloadN X hx hby (13 : Int32) at_23 rfl 24 rfl ?_
    refine own_bipush X hx hby (6 : Int32) at_24 rfl 26 rfl ?_
    have c26 : ¬ (13 : Int32) = (6 : Int32) := by decide
    refine own_icmp_ne X hx hby at_26 33 29 (by decide) rfl (fun _ => ?_) (fun q => absurd q c26)
    refine own_iconst X hx hby (0 : Int32) at_33 rfl 34 rfl ?_
    refine own_istore X hx hby at_34 rfl (l' := #[.val (.int p1), .val (.int (12 : Int32)), .val (.ref u_GET), .val (.int (13 : Int32)), .val (.int (0 : Int32))]) rfl 36 rfl ?_
    refine own_iloadN X hx hby (13 : Int32) at_36 rfl 37 rfl ?_
    refine own_iloadN X hx hby (12 : Int32) at_37 rfl 38 rfl ?_
    refine own_iconst X hx hby (1 : Int32) at_38 rfl 39 rfl ?_
    refine own_iadd X hx hby at_39 40 rfl ?_
    refine own_top (v' := (.int (13 : Int32))) (congrArg Value.int (by decide)) ?_
    have c40 : (13 : Int32) = (13 : Int32) := by decide
    refine own_icmp_ne X hx hby at_40 56 43 (by decide) rfl (fun q => absurd c40 q) (fun _ => ?_)
    refine own_aloadN X hx hby (.ref u_GET) at_43 rfl rfl 44 rfl ?_
    refine own_callV X hx hby hZ (st := []) [] rfl hown (hw _ (List.mem_of_getElem? (i := 15) rfl)) (hw _ (List.mem_of_getElem? (i := 16) rfl)) (hw _ (List.mem_of_getElem? (i := 18) rfl)) (hw _ (List.mem_of_getElem? (i := 17) rfl)) (hw _ (List.mem_of_getElem? (i := 6) rfl)) (hw _ (List.mem_of_getElem? (i := 19) rfl)) E_u_GET (by decide) at_44 (rm3 l Z a0 hw u_GET u_REPLY u_ERROR h0 n0 Zs S_REPLY S_ERROR) eT pd_1 rfl (by rw [hml]; rfl) (by decide) 0 rfl (by decide) (by decide) (by decide) 47 rfl ?_
    intro T44 L9 v9 X hQ
    obtain ⟨rfl, N9, eT⟩ := hQ
    have N := Fr.app N N9
    show Go p e below _ T44 (mkF m 47 #[.val (.int p1), .val (.int (12 : Int32)), .val (.ref u_GET), .val (.int (13 : Int32)), .val (.int (0 : Int32))] [(.int (f3 u_GET u_REPLY u_ERROR))])
    refine own_iload X hx hby (0 : Int32) at_47 rfl 49 rfl ?_
    have c49 : (f3 u_GET u_REPLY u_ERROR) = (0 : Int32) := by simp only [f3, if_neg nr_GET, if_neg ns_GET]
    refine own_icmp_ne X hx hby at_49 56 52 (by decide) rfl (fun q => absurd c49 q) (fun _ => ?_)
    refine own_iconst X hx hby (1 : Int32) at_52 rfl 53 rfl ?_
    refine own_goto X hx hby at_53 57 (by decide) ?_
    refine own_retN X hx hby hret hlk (t := .boolean) (z' := (1 : Int32)) (by simp) at_57 (by decide) (by decide) rfl ?_
    rw [eT]
    exact ⟨rfl, N⟩
  · skip
    refine own_iloadN X hx hby (13 : Int32) at_8 rfl 9 rfl ?_
    refine own_callS X hx hby hZ (st := []) [(.int (13 : Int32))] rfl hown (hw _ (List.mem_of_getElem? (i := 1) rfl)) (hw _ (List.mem_of_getElem? (i := 2) rfl)) (hw _ (List.mem_of_getElem? (i := 3) rfl)) (hw _ (List.mem_of_getElem? (i := 4) rfl)) (by decide) at_9 (rm1_13 l Z a0 hw u_KEYS h0 n0 Zs S_KEYS) eT pd_2 rfl (by rw [hml]; rfl) (by decide) 0 rfl (by decide) (by decide) (by decide) 12 rfl ?_
    intro T9 L9 v9 X hQ
    obtain ⟨rfl, N9, eT⟩ := hQ
    have N := Fr.app N N9
    show Go p e below _ T9 (mkF m 12 #[.val (.int p1), .val (.int (13 : Int32)), .unset, .unset, .unset] [(.ref u_KEYS)])
    refine own_astoreN X hx hby at_12 rfl (l' := #[.val (.int p1), .val (.int (13 : Int32)), .val (.ref u_KEYS), .unset, .unset]) rfl 13 rfl ?_
    refine own_aloadN X hx hby (.ref u_KEYS) at_13 rfl rfl 14 rfl ?_
    refine own_callV X hx hby hZ (st := []) [] rfl hown (hw _ (List.mem_of_getElem? (i := 8) rfl)) (hw _ (List.mem_of_getElem? (i := 9) rfl)) (hw _ (List.mem_of_getElem? (i := 11) rfl)) (hw _ (List.mem_of_getElem? (i := 10) rfl)) (hw _ (List.mem_of_getElem? (i := 6) rfl)) (hw _ (List.mem_of_getElem? (i := 12) rfl)) E_u_KEYS (by decide) at_14 (rm2 l Z a0 hw u_KEYS (14 : Int32) h0 n0 Zs F_code_u_KEYS) eT pd_0 rfl (by rw [hml]; rfl) (by decide) 0 rfl (by decide) (by decide) (by decide) 17 rfl ?_
    intro T14 L9 v9 X hQ
    obtain ⟨rfl, N9, eT⟩ := hQ
    have N := Fr.app N N9
    show Go p e below _ T14 (mkF m 17 #[.val (.int p1), .val (.int (13 : Int32)), .val (.ref u_KEYS), .unset, .unset] [(.int (14 : Int32))])
    refine own_istoreN X hx hby at_17 rfl (l' := #[.val (.int p1), .val (.int (13 : Int32)), .val (.ref u_KEYS), .val (.int (14 : Int32)), .unset]) rfl 18 rfl ?_
    refine own_iloadN X hx hby (14 : Int32) at_18 rfl 19 rfl ?_
    refine own_iconst X hx hby (3 : Int32) at_19 rfl 20 rfl ?_
    have c20 : ¬ (14 : Int32) = (3 : Int32) := by decide
    refine own_icmp_eq X hx hby at_20 29 23 (by decide) rfl (fun q => absurd q c20) (fun _ => ?_)
    refine own_iloadN X hx hby (14 : Int32) at_23 rfl 24 rfl ?_
    refine own_bipush X hx hby (6 : Int32) at_24 rfl 26 rfl ?_
    have c26 : ¬ (14 : Int32) = (6 : Int32) := by decide
    refine own_icmp_ne X hx hby at_26 33 29 (by decide) rfl (fun _ => ?_) (fun q => absurd q c26)
    refine own_iconst X hx hby (0 : Int32) at_33 rfl 34 rfl ?_
    refine own_istore X hx hby at_34 rfl (l' := #[.val (.int p1), .val (.int (13 : Int32)), .val (.ref u_KEYS), .val (.int (14 : Int32)), .val (.int (0 : Int32))]) rfl 36 rfl ?_
    refine own_iloadN X hx hby (14 : Int32) at_36 rfl 37 rfl ?_
    refine own_iloadN X hx hby (13 : Int32) at_37 rfl 38 rfl ?_
    refine own_iconst X hx hby (1 : Int32) at_38 rfl 39 rfl ?_
    refine own_iadd X hx hby at_39 40 rfl ?_
    refine own_top (v' := (.int (14 : Int32))) (congrArg Value.int (by decide)) ?_
    have c40 : (14 : Int32) = (14 : Int32) := by decide
    refine own_icmp_ne X hx hby at_40 56 43 (by decide) rfl (fun q => absurd c40 q) (fun _ => ?_)
    refine own_aloadN X hx hby (.ref u_KEYS) at_43 rfl rfl 44 rfl ?_
    refine own_callV X hx hby hZ (st := []) [] rfl hown (hw _ (List.mem_of_getElem? (i := 15) rfl)) (hw _ (List.mem_of_getElem? (i := 16) rfl)) (hw _ (List.mem_of_getElem? (i := 18) rfl)) (hw _ (List.mem_of_getElem? (i := 17) rfl)) (hw _ (List.mem_of_getElem? (i := 6) rfl)) (hw _ (List.mem_of_getElem? (i := 19) rfl)) E_u_KEYS (by decide) at_44 (rm3 l Z a0 hw u_KEYS u_REPLY u_ERROR h0 n0 Zs S_REPLY S_ERROR) eT pd_1 rfl (by rw [hml]; rfl) (by decide) 0 rfl (by decide) (by decide) (by decide) 47 rfl ?_
    intro T44 L9 v9 X hQ
    obtain ⟨rfl, N9, eT⟩ := hQ
    have N := Fr.app N N9
    show Go p e below _ T44 (mkF m 47 #[.val (.int p1), .val (.int (13 : Int32)), .val (.ref u_KEYS), .val (.int (14 : Int32)), .val (.int (0 : Int32))] [(.int (f3 u_KEYS u_REPLY u_ERROR))])
    refine own_iload X hx hby (0 : Int32) at_47 rfl 49 rfl ?_
    have c49 : (f3 u_KEYS u_REPLY u_ERROR) = (0 : Int32) := by simp only [f3, if_neg nr_KEYS, if_neg ns_KEYS]
    refine own_icmp_ne X hx hby at_49 56 52 (by decide) rfl (fun q => absurd c49 q) (fun _ => ?_)
    refine own_iconst X hx hby (1 : Int32) at_52 rfl 53 rfl ?_
    refine own_goto X hx hby at_53 57 (by decide) ?_
    refine own_retN X hx hby hret hlk (t := .boolean) (z' := (1 : Int32)) (by simp) at_57 (by decide) (by decide) rfl ?_
    rw [eT]
    exact ⟨rfl, N⟩
  · skip
    refine own_iloadN X hx hby (14 : Int32) at_8 rfl 9 rfl ?_
    refine own_callS X hx hby hZ (st := []) [(.int (14 : Int32))] rfl hown (hw _ (List.mem_of_getElem? (i := 1) rfl)) (hw _ (List.mem_of_getElem? (i := 2) rfl)) (hw _ (List.mem_of_getElem? (i := 3) rfl)) (hw _ (List.mem_of_getElem? (i := 4) rfl)) (by decide) at_9 (rm1_14 l Z a0 hw u_WATCH h0 n0 Zs S_WATCH) eT pd_2 rfl (by rw [hml]; rfl) (by decide) 0 rfl (by decide) (by decide) (by decide) 12 rfl ?_
    intro T9 L9 v9 X hQ
    obtain ⟨rfl, N9, eT⟩ := hQ
    have N := Fr.app N N9
    show Go p e below _ T9 (mkF m 12 #[.val (.int p1), .val (.int (14 : Int32)), .unset, .unset, .unset] [(.ref u_WATCH)])
    refine own_astoreN X hx hby at_12 rfl (l' := #[.val (.int p1), .val (.int (14 : Int32)), .val (.ref u_WATCH), .unset, .unset]) rfl 13 rfl ?_
    refine own_aloadN X hx hby (.ref u_WATCH) at_13 rfl rfl 14 rfl ?_
    refine own_callV X hx hby hZ (st := []) [] rfl hown (hw _ (List.mem_of_getElem? (i := 8) rfl)) (hw _ (List.mem_of_getElem? (i := 9) rfl)) (hw _ (List.mem_of_getElem? (i := 11) rfl)) (hw _ (List.mem_of_getElem? (i := 10) rfl)) (hw _ (List.mem_of_getElem? (i := 6) rfl)) (hw _ (List.mem_of_getElem? (i := 12) rfl)) E_u_WATCH (by decide) at_14 (rm2 l Z a0 hw u_WATCH (15 : Int32) h0 n0 Zs F_code_u_WATCH) eT pd_0 rfl (by rw [hml]; rfl) (by decide) 0 rfl (by decide) (by decide) (by decide) 17 rfl ?_
    intro T14 L9 v9 X hQ
    obtain ⟨rfl, N9, eT⟩ := hQ
    have N := Fr.app N N9
    show Go p e below _ T14 (mkF m 17 #[.val (.int p1), .val (.int (14 : Int32)), .val (.ref u_WATCH), .unset, .unset] [(.int (15 : Int32))])
    refine own_istoreN X hx hby at_17 rfl (l' := #[.val (.int p1), .val (.int (14 : Int32)), .val (.ref u_WATCH), .val (.int (15 : Int32)), .unset]) rfl 18 rfl ?_
    refine own_iloadN X hx hby (15 : Int32) at_18 rfl 19 rfl ?_
    refine own_iconst X hx hby (3 : Int32) at_19 rfl 20 rfl ?_
    have c20 : ¬ (15 : Int32) = (3 : Int32) := by decide
    refine own_icmp_eq X hx hby at_20 29 23 (by decide) rfl (fun q => absurd q c20) (fun _ => ?_)
    refine own_iloadN X hx hby (15 : Int32) at_23 rfl 24 rfl ?_
    refine own_bipush X hx hby (6 : Int32) at_24 rfl 26 rfl ?_
    have c26 : ¬ (15 : Int32) = (6 : Int32) := by decide
    refine own_icmp_ne X hx hby at_26 33 29 (by decide) rfl (fun _ => ?_) (fun q => absurd q c26)
    refine own_iconst X hx hby (0 : Int32) at_33 rfl 34 rfl ?_
    refine own_istore X hx hby at_34 rfl (l' := #[.val (.int p1), .val (.int (14 : Int32)), .val (.ref u_WATCH), .val (.int (15 : Int32)), .val (.int (0 : Int32))]) rfl 36 rfl ?_
    refine own_iloadN X hx hby (15 : Int32) at_36 rfl 37 rfl ?_
    refine own_iloadN X hx hby (14 : Int32) at_37 rfl 38 rfl ?_
    refine own_iconst X hx hby (1 : Int32) at_38 rfl 39 rfl ?_
    refine own_iadd X hx hby at_39 40 rfl ?_
    refine own_top (v' := (.int (15 : Int32))) (congrArg Value.int (by decide)) ?_
    have c40 : (15 : Int32) = (15 : Int32) := by decide
    refine own_icmp_ne X hx hby at_40 56 43 (by decide) rfl (fun q => absurd c40 q) (fun _ => ?_)
    refine own_aloadN X hx hby (.ref u_WATCH) at_43 rfl rfl 44 rfl ?_
    refine own_callV X hx hby hZ (st := []) [] rfl hown (hw _ (List.mem_of_getElem? (i := 15) rfl)) (hw _ (List.mem_of_getElem? (i := 16) rfl)) (hw _ (List.mem_of_getElem? (i := 18) rfl)) (hw _ (List.mem_of_getElem? (i := 17) rfl)) (hw _ (List.mem_of_getElem? (i := 6) rfl)) (hw _ (List.mem_of_getElem? (i := 19) rfl)) E_u_WATCH (by decide) at_44 (rm3 l Z a0 hw u_WATCH u_REPLY u_ERROR h0 n0 Zs S_REPLY S_ERROR) eT pd_1 rfl (by rw [hml]; rfl) (by decide) 0 rfl (by decide) (by decide) (by decide) 47 rfl ?_
    intro T44 L9 v9 X hQ
    obtain ⟨rfl, N9, eT⟩ := hQ
    have N := Fr.app N N9
    show Go p e below _ T44 (mkF m 47 #[.val (.int p1), .val (.int (14 : Int32)), .val (.ref u_WATCH), .val (.int (15 : Int32)), .val (.int (0 : Int32))] [(.int (f3 u_WATCH u_REPLY u_ERROR))])
    refine own_iload X hx hby (0 : Int32) at_47 rfl 49 rfl ?_
    have c49 : (f3 u_WATCH u_REPLY u_ERROR) = (0 : Int32) := by simp only [f3, if_neg nr_WATCH, if_neg ns_WATCH]
    refine own_icmp_ne X hx hby at_49 56 52 (by decide) rfl (fun q => absurd c49 q) (fun _ => ?_)
    refine own_iconst X hx hby (1 : Int32) at_52 rfl 53 rfl ?_
    refine own_goto X hx hby at_53 57 (by decide) ?_
    refine own_retN X hx hby hret hlk (t := .boolean) (z' := (1 : Int32)) (by simp) at_57 (by decide) (by decide) rfl ?_
    rw [eT]
    exact ⟨rfl, N⟩
  · skip
    refine own_iloadN X hx hby (15 : Int32) at_8 rfl 9 rfl ?_
    refine own_callS X hx hby hZ (st := []) [(.int (15 : Int32))] rfl hown (hw _ (List.mem_of_getElem? (i := 1) rfl)) (hw _ (List.mem_of_getElem? (i := 2) rfl)) (hw _ (List.mem_of_getElem? (i := 3) rfl)) (hw _ (List.mem_of_getElem? (i := 4) rfl)) (by decide) at_9 (rm1_15 l Z a0 hw u_WAIT h0 n0 Zs S_WAIT) eT pd_2 rfl (by rw [hml]; rfl) (by decide) 0 rfl (by decide) (by decide) (by decide) 12 rfl ?_
    intro T9 L9 v9 X hQ
    obtain ⟨rfl, N9, eT⟩ := hQ
    have N := Fr.app N N9
    show Go p e below _ T9 (mkF m 12 #[.val (.int p1), .val (.int (15 : Int32)), .unset, .unset, .unset] [(.ref u_WAIT)])
    refine own_astoreN X hx hby at_12 rfl (l' := #[.val (.int p1), .val (.int (15 : Int32)), .val (.ref u_WAIT), .unset, .unset]) rfl 13 rfl ?_
    refine own_aloadN X hx hby (.ref u_WAIT) at_13 rfl rfl 14 rfl ?_
    refine own_callV X hx hby hZ (st := []) [] rfl hown (hw _ (List.mem_of_getElem? (i := 8) rfl)) (hw _ (List.mem_of_getElem? (i := 9) rfl)) (hw _ (List.mem_of_getElem? (i := 11) rfl)) (hw _ (List.mem_of_getElem? (i := 10) rfl)) (hw _ (List.mem_of_getElem? (i := 6) rfl)) (hw _ (List.mem_of_getElem? (i := 12) rfl)) E_u_WAIT (by decide) at_14 (rm2 l Z a0 hw u_WAIT (16 : Int32) h0 n0 Zs F_code_u_WAIT) eT pd_0 rfl (by rw [hml]; rfl) (by decide) 0 rfl (by decide) (by decide) (by decide) 17 rfl ?_
    intro T14 L9 v9 X hQ
    obtain ⟨rfl, N9, eT⟩ := hQ
    have N := Fr.app N N9
    show Go p e below _ T14 (mkF m 17 #[.val (.int p1), .val (.int (15 : Int32)), .val (.ref u_WAIT), .unset, .unset] [(.int (16 : Int32))])
    refine own_istoreN X hx hby at_17 rfl (l' := #[.val (.int p1), .val (.int (15 : Int32)), .val (.ref u_WAIT), .val (.int (16 : Int32)), .unset]) rfl 18 rfl ?_
    refine own_iloadN X hx hby (16 : Int32) at_18 rfl 19 rfl ?_
    refine own_iconst X hx hby (3 : Int32) at_19 rfl 20 rfl ?_
    have c20 : ¬ (16 : Int32) = (3 : Int32) := by decide
    refine own_icmp_eq X hx hby at_20 29 23 (by decide) rfl (fun q => absurd q c20) (fun _ => ?_)
    refine own_iloadN X hx hby (16 : Int32) at_23 rfl 24 rfl ?_
    refine own_bipush X hx hby (6 : Int32) at_24 rfl 26 rfl ?_
    have c26 : ¬ (16 : Int32) = (6 : Int32) := by decide
    refine own_icmp_ne X hx hby at_26 33 29 (by decide) rfl (fun _ => ?_) (fun q => absurd q c26)
    refine own_iconst X hx hby (0 : Int32) at_33 rfl 34 rfl ?_
    refine own_istore X hx hby at_34 rfl (l' := #[.val (.int p1), .val (.int (15 : Int32)), .val (.ref u_WAIT), .val (.int (16 : Int32)), .val (.int (0 : Int32))]) rfl 36 rfl ?_
    refine own_iloadN X hx hby (16 : Int32) at_36 rfl 37 rfl ?_
    refine own_iloadN X hx hby (15 : Int32) at_37 rfl 38 rfl ?_
    refine own_iconst X hx hby (1 : Int32) at_38 rfl 39 rfl ?_
    refine own_iadd X hx hby at_39 40 rfl ?_
    refine own_top (v' := (.int (16 : Int32))) (congrArg Value.int (by decide)) ?_
    have c40 : (16 : Int32) = (16 : Int32) := by decide
    refine own_icmp_ne X hx hby at_40 56 43 (by decide) rfl (fun q => absurd c40 q) (fun _ => ?_)
    refine own_aloadN X hx hby (.ref u_WAIT) at_43 rfl rfl 44 rfl ?_
    refine own_callV X hx hby hZ (st := []) [] rfl hown (hw _ (List.mem_of_getElem? (i := 15) rfl)) (hw _ (List.mem_of_getElem? (i := 16) rfl)) (hw _ (List.mem_of_getElem? (i := 18) rfl)) (hw _ (List.mem_of_getElem? (i := 17) rfl)) (hw _ (List.mem_of_getElem? (i := 6) rfl)) (hw _ (List.mem_of_getElem? (i := 19) rfl)) E_u_WAIT (by decide) at_44 (rm3 l Z a0 hw u_WAIT u_REPLY u_ERROR h0 n0 Zs S_REPLY S_ERROR) eT pd_1 rfl (by rw [hml]; rfl) (by decide) 0 rfl (by decide) (by decide) (by decide) 47 rfl ?_
    intro T44 L9 v9 X hQ
    obtain ⟨rfl, N9, eT⟩ := hQ
    have N := Fr.app N N9
    show Go p e below _ T44 (mkF m 47 #[.val (.int p1), .val (.int (15 : Int32)), .val (.ref u_WAIT), .val (.int (16 : Int32)), .val (.int (0 : Int32))] [(.int (f3 u_WAIT u_REPLY u_ERROR))])
    refine own_iload X hx hby (0 : Int32) at_47 rfl 49 rfl ?_
    have c49 : (f3 u_WAIT u_REPLY u_ERROR) = (0 : Int32) := by simp only [f3, if_neg nr_WAIT, if_neg ns_WAIT]
    refine own_icmp_ne X hx hby at_49 56 52 (by decide) rfl (fun q => absurd c49 q) (fun _ => ?_)
    refine own_iconst X hx hby (1 : Int32) at_52 rfl 53 rfl ?_
    refine own_goto X hx hby at_53 57 (by decide) ?_
    refine own_retN X hx hby hret hlk (t := .boolean) (z' := (1 : Int32)) (by simp) at_57 (by decide) (by decide) rfl ?_
    rw [eT]
    exact ⟨rfl, N⟩
  · skip
    refine own_iloadN X hx hby (16 : Int32) at_8 rfl 9 rfl ?_
    refine own_callS X hx hby hZ (st := []) [(.int (16 : Int32))] rfl hown (hw _ (List.mem_of_getElem? (i := 1) rfl)) (hw _ (List.mem_of_getElem? (i := 2) rfl)) (hw _ (List.mem_of_getElem? (i := 3) rfl)) (hw _ (List.mem_of_getElem? (i := 4) rfl)) (by decide) at_9 (rm1_16 l Z a0 hw u_RESTART h0 n0 Zs S_RESTART) eT pd_2 rfl (by rw [hml]; rfl) (by decide) 0 rfl (by decide) (by decide) (by decide) 12 rfl ?_
    intro T9 L9 v9 X hQ
    obtain ⟨rfl, N9, eT⟩ := hQ
    have N := Fr.app N N9
    show Go p e below _ T9 (mkF m 12 #[.val (.int p1), .val (.int (16 : Int32)), .unset, .unset, .unset] [(.ref u_RESTART)])
    refine own_astoreN X hx hby at_12 rfl (l' := #[.val (.int p1), .val (.int (16 : Int32)), .val (.ref u_RESTART), .unset, .unset]) rfl 13 rfl ?_
    refine own_aloadN X hx hby (.ref u_RESTART) at_13 rfl rfl 14 rfl ?_
    refine own_callV X hx hby hZ (st := []) [] rfl hown (hw _ (List.mem_of_getElem? (i := 8) rfl)) (hw _ (List.mem_of_getElem? (i := 9) rfl)) (hw _ (List.mem_of_getElem? (i := 11) rfl)) (hw _ (List.mem_of_getElem? (i := 10) rfl)) (hw _ (List.mem_of_getElem? (i := 6) rfl)) (hw _ (List.mem_of_getElem? (i := 12) rfl)) E_u_RESTART (by decide) at_14 (rm2 l Z a0 hw u_RESTART (17 : Int32) h0 n0 Zs F_code_u_RESTART) eT pd_0 rfl (by rw [hml]; rfl) (by decide) 0 rfl (by decide) (by decide) (by decide) 17 rfl ?_
    intro T14 L9 v9 X hQ
    obtain ⟨rfl, N9, eT⟩ := hQ
    have N := Fr.app N N9
    show Go p e below _ T14 (mkF m 17 #[.val (.int p1), .val (.int (16 : Int32)), .val (.ref u_RESTART), .unset, .unset] [(.int (17 : Int32))])
    refine own_istoreN X hx hby at_17 rfl (l' := #[.val (.int p1), .val (.int (16 : Int32)), .val (.ref u_RESTART), .val (.int (17 : Int32)), .unset]) rfl 18 rfl ?_
    refine own_iloadN X hx hby (17 : Int32) at_18 rfl 19 rfl ?_
    refine own_iconst X hx hby (3 : Int32) at_19 rfl 20 rfl ?_
    have c20 : ¬ (17 : Int32) = (3 : Int32) := by decide
    refine own_icmp_eq X hx hby at_20 29 23 (by decide) rfl (fun q => absurd q c20) (fun _ => ?_)
    refine own_iloadN X hx hby (17 : Int32) at_23 rfl 24 rfl ?_
    refine own_bipush X hx hby (6 : Int32) at_24 rfl 26 rfl ?_
    have c26 : ¬ (17 : Int32) = (6 : Int32) := by decide
    refine own_icmp_ne X hx hby at_26 33 29 (by decide) rfl (fun _ => ?_) (fun q => absurd q c26)
    refine own_iconst X hx hby (0 : Int32) at_33 rfl 34 rfl ?_
    refine own_istore X hx hby at_34 rfl (l' := #[.val (.int p1), .val (.int (16 : Int32)), .val (.ref u_RESTART), .val (.int (17 : Int32)), .val (.int (0 : Int32))]) rfl 36 rfl ?_
    refine own_iloadN X hx hby (17 : Int32) at_36 rfl 37 rfl ?_
    refine own_iloadN X hx hby (16 : Int32) at_37 rfl 38 rfl ?_
    refine own_iconst X hx hby (1 : Int32) at_38 rfl 39 rfl ?_
    refine own_iadd X hx hby at_39 40 rfl ?_
    refine own_top (v' := (.int (17 : Int32))) (congrArg Value.int (by decide)) ?_
    have c40 : (17 : Int32) = (17 : Int32) := by decide
    refine own_icmp_ne X hx hby at_40 56 43 (by decide) rfl (fun q => absurd c40 q) (fun _ => ?_)
    refine own_aloadN X hx hby (.ref u_RESTART) at_43 rfl rfl 44 rfl ?_
    refine own_callV X hx hby hZ (st := []) [] rfl hown (hw _ (List.mem_of_getElem? (i := 15) rfl)) (hw _ (List.mem_of_getElem? (i := 16) rfl)) (hw _ (List.mem_of_getElem? (i := 18) rfl)) (hw _ (List.mem_of_getElem? (i := 17) rfl)) (hw _ (List.mem_of_getElem? (i := 6) rfl)) (hw _ (List.mem_of_getElem? (i := 19) rfl)) E_u_RESTART (by decide) at_44 (rm3 l Z a0 hw u_RESTART u_REPLY u_ERROR h0 n0 Zs S_REPLY S_ERROR) eT pd_1 rfl (by rw [hml]; rfl) (by decide) 0 rfl (by decide) (by decide) (by decide) 47 rfl ?_
    intro T44 L9 v9 X hQ
    obtain ⟨rfl, N9, eT⟩ := hQ
    have N := Fr.app N N9
    show Go p e below _ T44 (mkF m 47 #[.val (.int p1), .val (.int (16 : Int32)), .val (.ref u_RESTART), .val (.int (17 : Int32)), .val (.int (0 : Int32))] [(.int (f3 u_RESTART u_REPLY u_ERROR))])
    refine own_iload X hx hby (0 : Int32) at_47 rfl 49 rfl ?_
    have c49 : (f3 u_RESTART u_REPLY u_ERROR) = (0 : Int32) := by simp only [f3, if_neg nr_RESTART, if_neg ns_RESTART]
    refine own_icmp_ne X hx hby at_49 56 52 (by decide) rfl (fun q => absurd c49 q) (fun _ => ?_)
    refine own_iconst X hx hby (1 : Int32) at_52 rfl 53 rfl ?_
    refine own_goto X hx hby at_53 57 (by decide) ?_
    refine own_retN X hx hby hret hlk (t := .boolean) (z' := (1 : Int32)) (by simp) at_57 (by decide) (by decide) rfl ?_
    rw [eT]
    exact ⟨rfl, N⟩
  · skip
    refine own_iloadN X hx hby (17 : Int32) at_8 rfl 9 rfl ?_
    refine own_callS X hx hby hZ (st := []) [(.int (17 : Int32))] rfl hown (hw _ (List.mem_of_getElem? (i := 1) rfl)) (hw _ (List.mem_of_getElem? (i := 2) rfl)) (hw _ (List.mem_of_getElem? (i := 3) rfl)) (hw _ (List.mem_of_getElem? (i := 4) rfl)) (by decide) at_9 (rm1_17 l Z a0 hw u_STOP h0 n0 Zs S_STOP) eT pd_2 rfl (by rw [hml]; rfl) (by decide) 0 rfl (by decide) (by decide) (by decide) 12 rfl ?_
    intro T9 L9 v9 X hQ
    obtain ⟨rfl, N9, eT⟩ := hQ
    have N := Fr.app N N9
    show Go p e below _ T9 (mkF m 12 #[.val (.int p1), .val (.int (17 : Int32)), .unset, .unset, .unset] [(.ref u_STOP)])
    refine own_astoreN X hx hby at_12 rfl (l' := #[.val (.int p1), .val (.int (17 : Int32)), .val (.ref u_STOP), .unset, .unset]) rfl 13 rfl ?_
    refine own_aloadN X hx hby (.ref u_STOP) at_13 rfl rfl 14 rfl ?_
    refine own_callV X hx hby hZ (st := []) [] rfl hown (hw _ (List.mem_of_getElem? (i := 8) rfl)) (hw _ (List.mem_of_getElem? (i := 9) rfl)) (hw _ (List.mem_of_getElem? (i := 11) rfl)) (hw _ (List.mem_of_getElem? (i := 10) rfl)) (hw _ (List.mem_of_getElem? (i := 6) rfl)) (hw _ (List.mem_of_getElem? (i := 12) rfl)) E_u_STOP (by decide) at_14 (rm2 l Z a0 hw u_STOP (18 : Int32) h0 n0 Zs F_code_u_STOP) eT pd_0 rfl (by rw [hml]; rfl) (by decide) 0 rfl (by decide) (by decide) (by decide) 17 rfl ?_
    intro T14 L9 v9 X hQ
    obtain ⟨rfl, N9, eT⟩ := hQ
    have N := Fr.app N N9
    show Go p e below _ T14 (mkF m 17 #[.val (.int p1), .val (.int (17 : Int32)), .val (.ref u_STOP), .unset, .unset] [(.int (18 : Int32))])
    refine own_istoreN X hx hby at_17 rfl (l' := #[.val (.int p1), .val (.int (17 : Int32)), .val (.ref u_STOP), .val (.int (18 : Int32)), .unset]) rfl 18 rfl ?_
    refine own_iloadN X hx hby (18 : Int32) at_18 rfl 19 rfl ?_
    refine own_iconst X hx hby (3 : Int32) at_19 rfl 20 rfl ?_
    have c20 : ¬ (18 : Int32) = (3 : Int32) := by decide
    refine own_icmp_eq X hx hby at_20 29 23 (by decide) rfl (fun q => absurd q c20) (fun _ => ?_)
    refine own_iloadN X hx hby (18 : Int32) at_23 rfl 24 rfl ?_
    refine own_bipush X hx hby (6 : Int32) at_24 rfl 26 rfl ?_
    have c26 : ¬ (18 : Int32) = (6 : Int32) := by decide
    refine own_icmp_ne X hx hby at_26 33 29 (by decide) rfl (fun _ => ?_) (fun q => absurd q c26)
    refine own_iconst X hx hby (0 : Int32) at_33 rfl 34 rfl ?_
    refine own_istore X hx hby at_34 rfl (l' := #[.val (.int p1), .val (.int (17 : Int32)), .val (.ref u_STOP), .val (.int (18 : Int32)), .val (.int (0 : Int32))]) rfl 36 rfl ?_
    refine own_iloadN X hx hby (18 : Int32) at_36 rfl 37 rfl ?_
    refine own_iloadN X hx hby (17 : Int32) at_37 rfl 38 rfl ?_
    refine own_iconst X hx hby (1 : Int32) at_38 rfl 39 rfl ?_
    refine own_iadd X hx hby at_39 40 rfl ?_
    refine own_top (v' := (.int (18 : Int32))) (congrArg Value.int (by decide)) ?_
    have c40 : (18 : Int32) = (18 : Int32) := by decide
    refine own_icmp_ne X hx hby at_40 56 43 (by decide) rfl (fun q => absurd c40 q) (fun _ => ?_)
    refine own_aloadN X hx hby (.ref u_STOP) at_43 rfl rfl 44 rfl ?_
    refine own_callV X hx hby hZ (st := []) [] rfl hown (hw _ (List.mem_of_getElem? (i := 15) rfl)) (hw _ (List.mem_of_getElem? (i := 16) rfl)) (hw _ (List.mem_of_getElem? (i := 18) rfl)) (hw _ (List.mem_of_getElem? (i := 17) rfl)) (hw _ (List.mem_of_getElem? (i := 6) rfl)) (hw _ (List.mem_of_getElem? (i := 19) rfl)) E_u_STOP (by decide) at_44 (rm3 l Z a0 hw u_STOP u_REPLY u_ERROR h0 n0 Zs S_REPLY S_ERROR) eT pd_1 rfl (by rw [hml]; rfl) (by decide) 0 rfl (by decide) (by decide) (by decide) 47 rfl ?_
    intro T44 L9 v9 X hQ
    obtain ⟨rfl, N9, eT⟩ := hQ
    have N := Fr.app N N9
    show Go p e below _ T44 (mkF m 47 #[.val (.int p1), .val (.int (17 : Int32)), .val (.ref u_STOP), .val (.int (18 : Int32)), .val (.int (0 : Int32))] [(.int (f3 u_STOP u_REPLY u_ERROR))])
    refine own_iload X hx hby (0 : Int32) at_47 rfl 49 rfl ?_
    have c49 : (f3 u_STOP u_REPLY u_ERROR) = (0 : Int32) := by simp only [f3, if_neg nr_STOP, if_neg ns_STOP]
    refine own_icmp_ne X hx hby at_49 56 52 (by decide) rfl (fun q => absurd c49 q) (fun _ => ?_)
    refine own_iconst X hx hby (1 : Int32) at_52 rfl 53 rfl ?_
    refine own_goto X hx hby at_53 57 (by decide) ?_
    refine own_retN X hx hby hret hlk (t := .boolean) (z' := (1 : Int32)) (by simp) at_57 (by decide) (by decide) rfl ?_
    rw [eT]
    exact ⟨rfl, N⟩
  · skip
    refine own_iloadN X hx hby (18 : Int32) at_8 rfl 9 rfl ?_
    refine own_callS X hx hby hZ (st := []) [(.int (18 : Int32))] rfl hown (hw _ (List.mem_of_getElem? (i := 1) rfl)) (hw _ (List.mem_of_getElem? (i := 2) rfl)) (hw _ (List.mem_of_getElem? (i := 3) rfl)) (hw _ (List.mem_of_getElem? (i := 4) rfl)) (by decide) at_9 (rm1_18 l Z a0 hw u_START h0 n0 Zs S_START) eT pd_2 rfl (by rw [hml]; rfl) (by decide) 0 rfl (by decide) (by decide) (by decide) 12 rfl ?_
    intro T9 L9 v9 X hQ
    obtain ⟨rfl, N9, eT⟩ := hQ
    have N := Fr.app N N9
    show Go p e below _ T9 (mkF m 12 #[.val (.int p1), .val (.int (18 : Int32)), .unset, .unset, .unset] [(.ref u_START)])
    refine own_astoreN X hx hby at_12 rfl (l' := #[.val (.int p1), .val (.int (18 : Int32)), .val (.ref u_START), .unset, .unset]) rfl 13 rfl ?_
    refine own_aloadN X hx hby (.ref u_START) at_13 rfl rfl 14 rfl ?_
    refine own_callV X hx hby hZ (st := []) [] rfl hown (hw _ (List.mem_of_getElem? (i := 8) rfl)) (hw _ (List.mem_of_getElem? (i := 9) rfl)) (hw _ (List.mem_of_getElem? (i := 11) rfl)) (hw _ (List.mem_of_getElem? (i := 10) rfl)) (hw _ (List.mem_of_getElem? (i := 6) rfl)) (hw _ (List.mem_of_getElem? (i := 12) rfl)) E_u_START (by decide) at_14 (rm2 l Z a0 hw u_START (19 : Int32) h0 n0 Zs F_code_u_START) eT pd_0 rfl (by rw [hml]; rfl) (by decide) 0 rfl (by decide) (by decide) (by decide) 17 rfl ?_
    intro T14 L9 v9 X hQ
    obtain ⟨rfl, N9, eT⟩ := hQ
    have N := Fr.app N N9
    show Go p e below _ T14 (mkF m 17 #[.val (.int p1), .val (.int (18 : Int32)), .val (.ref u_START), .unset, .unset] [(.int (19 : Int32))])
    refine own_istoreN X hx hby at_17 rfl (l' := #[.val (.int p1), .val (.int (18 : Int32)), .val (.ref u_START), .val (.int (19 : Int32)), .unset]) rfl 18 rfl ?_
    refine own_iloadN X hx hby (19 : Int32) at_18 rfl 19 rfl ?_
    refine own_iconst X hx hby (3 : Int32) at_19 rfl 20 rfl ?_
    have c20 : ¬ (19 : Int32) = (3 : Int32) := by decide
    refine own_icmp_eq X hx hby at_20 29 23 (by decide) rfl (fun q => absurd q c20) (fun _ => ?_)
    refine own_iloadN X hx hby (19 : Int32) at_23 rfl 24 rfl ?_
    refine own_bipush X hx hby (6 : Int32) at_24 rfl 26 rfl ?_
    have c26 : ¬ (19 : Int32) = (6 : Int32) := by decide
    refine own_icmp_ne X hx hby at_26 33 29 (by decide) rfl (fun _ => ?_) (fun q => absurd q c26)
    refine own_iconst X hx hby (0 : Int32) at_33 rfl 34 rfl ?_
    refine own_istore X hx hby at_34 rfl (l' := #[.val (.int p1), .val (.int (18 : Int32)), .val (.ref u_START), .val (.int (19 : Int32)), .val (.int (0 : Int32))]) rfl 36 rfl ?_
    refine own_iloadN X hx hby (19 : Int32) at_36 rfl 37 rfl ?_
    refine own_iloadN X hx hby (18 : Int32) at_37 rfl 38 rfl ?_
    refine own_iconst X hx hby (1 : Int32) at_38 rfl 39 rfl ?_
    refine own_iadd X hx hby at_39 40 rfl ?_
    refine own_top (v' := (.int (19 : Int32))) (congrArg Value.int (by decide)) ?_
    have c40 : (19 : Int32) = (19 : Int32) := by decide
    refine own_icmp_ne X hx hby at_40 56 43 (by decide) rfl (fun q => absurd c40 q) (fun _ => ?_)
    refine own_aloadN X hx hby (.ref u_START) at_43 rfl rfl 44 rfl ?_
    refine own_callV X hx hby hZ (st := []) [] rfl hown (hw _ (List.mem_of_getElem? (i := 15) rfl)) (hw _ (List.mem_of_getElem? (i := 16) rfl)) (hw _ (List.mem_of_getElem? (i := 18) rfl)) (hw _ (List.mem_of_getElem? (i := 17) rfl)) (hw _ (List.mem_of_getElem? (i := 6) rfl)) (hw _ (List.mem_of_getElem? (i := 19) rfl)) E_u_START (by decide) at_44 (rm3 l Z a0 hw u_START u_REPLY u_ERROR h0 n0 Zs S_REPLY S_ERROR) eT pd_1 rfl (by rw [hml]; rfl) (by decide) 0 rfl (by decide) (by decide) (by decide) 47 rfl ?_
    intro T44 L9 v9 X hQ
    obtain ⟨rfl, N9, eT⟩ := hQ
    have N := Fr.app N N9
    show Go p e below _ T44 (mkF m 47 #[.val (.int p1), .val (.int (18 : Int32)), .val (.ref u_START), .val (.int (19 : Int32)), .val (.int (0 : Int32))] [(.int (f3 u_START u_REPLY u_ERROR))])
    refine own_iload X hx hby (0 : Int32) at_47 rfl 49 rfl ?_
    have c49 : (f3 u_START u_REPLY u_ERROR) = (0 : Int32) := by simp only [f3, if_neg nr_START, if_neg ns_START]
    refine own_icmp_ne X hx hby at_49 56 52 (by decide) rfl (fun q => absurd c49 q) (fun _ => ?_)
    refine own_iconst X hx hby (1 : Int32) at_52 rfl 53 rfl ?_
    refine own_goto X hx hby at_53 57 (by decide) ?_
    refine own_retN X hx hby hret hlk (t := .boolean) (z' := (1 : Int32)) (by simp) at_57 (by decide) (by decide) rfl ?_
    rw [eT]
    exact ⟨rfl, N⟩
set_option maxRecDepth 65536 in
set_option maxHeartbeats 40000000 in
theorem comes_1 {Post : Tables → Env → Array Value → State → Outcome → State → Prop} (hpost : ∀ tb e args s v u, (limb_1_1.after args s (.returned v) u = true ∧ limb_1_2.after args s (.returned v) u = true ∧ True) → FrameEnd s (.returned v) u (Jvm.fieldLocs frame_1_writes args s ++ Jvm.arrayLocs frame_1_arrays args s ++ Jvm.staticLocs frame_1_statics s) 0 0 → Post tb e args s (.returned v) u) :
    ArmFor flags0 classFile x code maxLocals ret World_1 tables_1 room_1 Calls_1 rest_1 Pre_1 Post := by
  intro l hfl _ _ p e ha hc hk s m args below hf hA hF happ hP
  obtain ⟨hcalls, hrest, hpre⟩ := hP
  obtain ⟨-, -, -, hnamed, -, -, -, hat⟩ := (Spec.applies_iff hf).mp happ
  obtain ⟨hg, hn⟩ := and_e (Cond.before_iff.mp (show (Jvm.Cond.and given_1 narrow_1).before args s = true from hpre))
  obtain ⟨gg1, gg2⟩ := and_e hg
  obtain ⟨w0, rfl⟩ : ∃ w0 : Value, args = #[w0] := by
    have hs : args.size = 1 := by simpa [Cond.value, given_1] using gg1
    obtain ⟨L⟩ := args
    match L, hs with
    | [w0], _ => exact ⟨w0, rfl⟩
  have hw := fun d (hd : d ∈ tables_1) => atoms_spec (ws := Jvm.Cond.code x code maxLocals ret :: tables_1) hat d (List.mem_cons_of_mem _ hd)
  have hfit : Fit s := fun {y c} hc i hi => by
    obtain ⟨ha, rfl⟩ := Array.getElem?_eq_some_iff.mp hc
    have q := List.all_eq_true.mp ((Array.all_eq_true_iff_forall_mem.mp hF) _ (Array.getElem_mem ha)) i (List.mem_range.mpr hi)
    simpa [Array.getElem?_eq_getElem hi] using q
  obtain ⟨i0, ei0⟩ := is_v gg2
  obtain rfl : w0 = (.int i0) := Option.some.inj ei0
  obtain ⟨nn1a, nn1b⟩ := and_e hn
  obtain ⟨nn2a, nn2b⟩ := and_e nn1b
  obtain ⟨nn3a, nn3b⟩ := and_e nn2b
  obtain ⟨nn4a, nn4b⟩ := and_e nn3b
  obtain ⟨nn5a, nn5b⟩ := and_e nn4b
  obtain ⟨nn6a, nn6b⟩ := and_e nn5b
  obtain ⟨nn7a, nn7b⟩ := and_e nn6b
  obtain ⟨nn8a, nn8b⟩ := and_e nn7b
  obtain ⟨nn9a, nn9b⟩ := and_e nn8b
  obtain ⟨nn10a, nn10b⟩ := and_e nn9b
  obtain ⟨nn11a, nn11b⟩ := and_e nn10b
  obtain ⟨nn12a, nn12b⟩ := and_e nn11b
  obtain ⟨nn13a, nn13b⟩ := and_e nn12b
  obtain ⟨nn14a, nn14b⟩ := and_e nn13b
  obtain ⟨nn15a, nn15b⟩ := and_e nn14b
  obtain ⟨nn16a, nn16b⟩ := and_e nn15b
  obtain ⟨nn17a, nn17b⟩ := and_e nn16b
  obtain ⟨nn18a, nn18b⟩ := and_e nn17b
  obtain ⟨nn19a, nn19b⟩ := and_e nn18b
  obtain ⟨nn20a, nn20b⟩ := and_e nn19b
  obtain ⟨nn21a, nn21b⟩ := and_e nn20b
  obtain ⟨nn22a, nn22b⟩ := and_e nn21b
  obtain ⟨nn23a, nn23b⟩ := and_e nn22b
  obtain ⟨nn24a, nn24b⟩ := and_e nn23b
  obtain ⟨nn25a, nn25b⟩ := and_e nn24b
  obtain ⟨nn26a, nn26b⟩ := and_e nn25b
  obtain ⟨nn27a, nn27b⟩ := and_e nn26b
  obtain ⟨nn28a, nn28b⟩ := and_e nn27b
  obtain ⟨nn29a, nn29b⟩ := and_e nn28b
  obtain ⟨nn30a, nn30b⟩ := and_e nn29b
  obtain ⟨nn31a, nn31b⟩ := and_e nn30b
  obtain ⟨nn32a, nn32b⟩ := and_e nn31b
  obtain ⟨nn33a, nn33b⟩ := and_e nn32b
  obtain ⟨nn34a, nn34b⟩ := and_e nn33b
  obtain ⟨nn35a, nn35b⟩ := and_e nn34b
  obtain ⟨nn36a, nn36b⟩ := and_e nn35b
  obtain ⟨nn37a, nn37b⟩ := and_e nn36b
  obtain ⟨nn38a, nn38b⟩ := and_e nn37b
  obtain ⟨nn39a, nn39b⟩ := and_e nn38b
  obtain ⟨nn40a, nn40b⟩ := and_e nn39b
  obtain ⟨nn41a, nn41b⟩ := and_e nn40b
  obtain ⟨nn42a, nn42b⟩ := and_e nn41b
  obtain ⟨nn43a, nn43b⟩ := and_e nn42b
  obtain ⟨nn44a, nn44b⟩ := and_e nn43b
  obtain ⟨nn45a, nn45b⟩ := and_e nn44b
  obtain ⟨nn46a, nn46b⟩ := and_e nn45b
  obtain ⟨nn47a, nn47b⟩ := and_e nn46b
  obtain ⟨nn48a, nn48b⟩ := and_e nn47b
  obtain ⟨nn49a, nn49b⟩ := and_e nn48b
  obtain ⟨nn50a, nn50b⟩ := and_e nn49b
  obtain ⟨nn51a, nn51b⟩ := and_e nn50b
  obtain ⟨nn52a, nn52b⟩ := and_e nn51b
  obtain ⟨nn53a, nn53b⟩ := and_e nn52b
  obtain ⟨nn54a, nn54b⟩ := and_e nn53b
  obtain ⟨nn55a, nn55b⟩ := and_e nn54b
  obtain ⟨nn56a, nn56b⟩ := and_e nn55b
  obtain ⟨u_READY, ev_READY⟩ := exa_v nn1a
  have E_u_READY := Exa.start ev_READY nn1a
  have S_READY := Sta.start ev_READY (Or.inr ⟨(hw _ (List.mem_of_getElem? (i := 6) rfl)), (hw _ (List.mem_of_getElem? (i := 7) rfl))⟩)
  obtain ⟨u_REPLY, ev_REPLY⟩ := exa_v nn3a
  have E_u_REPLY := Exa.start ev_REPLY nn3a
  have S_REPLY := Sta.start ev_REPLY (Or.inr ⟨(hw _ (List.mem_of_getElem? (i := 6) rfl)), (hw _ (List.mem_of_getElem? (i := 21) rfl))⟩)
  obtain ⟨u_ERROR, ev_ERROR⟩ := exa_v nn6a
  have E_u_ERROR := Exa.start ev_ERROR nn6a
  have S_ERROR := Sta.start ev_ERROR (Or.inr ⟨(hw _ (List.mem_of_getElem? (i := 6) rfl)), (hw _ (List.mem_of_getElem? (i := 23) rfl))⟩)
  obtain ⟨u_HEARTBEAT, ev_HEARTBEAT⟩ := exa_v nn8a
  have E_u_HEARTBEAT := Exa.start ev_HEARTBEAT nn8a
  have S_HEARTBEAT := Sta.start ev_HEARTBEAT (Or.inr ⟨(hw _ (List.mem_of_getElem? (i := 6) rfl)), (hw _ (List.mem_of_getElem? (i := 25) rfl))⟩)
  obtain ⟨u_WAIT, ev_WAIT⟩ := exa_v nn11a
  have E_u_WAIT := Exa.start ev_WAIT nn11a
  have S_WAIT := Sta.start ev_WAIT (Or.inr ⟨(hw _ (List.mem_of_getElem? (i := 6) rfl)), (hw _ (List.mem_of_getElem? (i := 27) rfl))⟩)
  obtain ⟨u_STOP, ev_STOP⟩ := exa_v nn15a
  have E_u_STOP := Exa.start ev_STOP nn15a
  have S_STOP := Sta.start ev_STOP (Or.inr ⟨(hw _ (List.mem_of_getElem? (i := 6) rfl)), (hw _ (List.mem_of_getElem? (i := 30) rfl))⟩)
  obtain ⟨u_SUBSCRIBE, ev_SUBSCRIBE⟩ := exa_v nn18a
  have E_u_SUBSCRIBE := Exa.start ev_SUBSCRIBE nn18a
  have S_SUBSCRIBE := Sta.start ev_SUBSCRIBE (Or.inr ⟨(hw _ (List.mem_of_getElem? (i := 6) rfl)), (hw _ (List.mem_of_getElem? (i := 32) rfl))⟩)
  obtain ⟨u_GONE, ev_GONE⟩ := exa_v nn22a
  have E_u_GONE := Exa.start ev_GONE nn22a
  have S_GONE := Sta.start ev_GONE (Or.inr ⟨(hw _ (List.mem_of_getElem? (i := 6) rfl)), (hw _ (List.mem_of_getElem? (i := 35) rfl))⟩)
  obtain ⟨u_HOLD, ev_HOLD⟩ := exa_v nn25a
  have E_u_HOLD := Exa.start ev_HOLD nn25a
  have S_HOLD := Sta.start ev_HOLD (Or.inr ⟨(hw _ (List.mem_of_getElem? (i := 6) rfl)), (hw _ (List.mem_of_getElem? (i := 37) rfl))⟩)
  obtain ⟨u_PUBLISH, ev_PUBLISH⟩ := exa_v nn28a
  have E_u_PUBLISH := Exa.start ev_PUBLISH nn28a
  have S_PUBLISH := Sta.start ev_PUBLISH (Or.inr ⟨(hw _ (List.mem_of_getElem? (i := 6) rfl)), (hw _ (List.mem_of_getElem? (i := 39) rfl))⟩)
  obtain ⟨u_REQUEST, ev_REQUEST⟩ := exa_v nn31a
  have E_u_REQUEST := Exa.start ev_REQUEST nn31a
  have S_REQUEST := Sta.start ev_REQUEST (Or.inr ⟨(hw _ (List.mem_of_getElem? (i := 6) rfl)), (hw _ (List.mem_of_getElem? (i := 41) rfl))⟩)
  obtain ⟨u_WATCH, ev_WATCH⟩ := exa_v nn34a
  have E_u_WATCH := Exa.start ev_WATCH nn34a
  have S_WATCH := Sta.start ev_WATCH (Or.inr ⟨(hw _ (List.mem_of_getElem? (i := 6) rfl)), (hw _ (List.mem_of_getElem? (i := 43) rfl))⟩)
  obtain ⟨u_START, ev_START⟩ := exa_v nn37a
  have E_u_START := Exa.start ev_START nn37a
  have S_START := Sta.start ev_START (Or.inr ⟨(hw _ (List.mem_of_getElem? (i := 6) rfl)), (hw _ (List.mem_of_getElem? (i := 45) rfl))⟩)
  obtain ⟨u_HEALTH, ev_HEALTH⟩ := exa_v nn40a
  have E_u_HEALTH := Exa.start ev_HEALTH nn40a
  have S_HEALTH := Sta.start ev_HEALTH (Or.inr ⟨(hw _ (List.mem_of_getElem? (i := 6) rfl)), (hw _ (List.mem_of_getElem? (i := 47) rfl))⟩)
  obtain ⟨u_RESTART, ev_RESTART⟩ := exa_v nn43a
  have E_u_RESTART := Exa.start ev_RESTART nn43a
  have S_RESTART := Sta.start ev_RESTART (Or.inr ⟨(hw _ (List.mem_of_getElem? (i := 6) rfl)), (hw _ (List.mem_of_getElem? (i := 49) rfl))⟩)
  obtain ⟨u_DISCONNECT, ev_DISCONNECT⟩ := exa_v nn46a
  have E_u_DISCONNECT := Exa.start ev_DISCONNECT nn46a
  have S_DISCONNECT := Sta.start ev_DISCONNECT (Or.inr ⟨(hw _ (List.mem_of_getElem? (i := 6) rfl)), (hw _ (List.mem_of_getElem? (i := 51) rfl))⟩)
  obtain ⟨u_RECEIVED, ev_RECEIVED⟩ := exa_v nn49a
  have E_u_RECEIVED := Exa.start ev_RECEIVED nn49a
  have S_RECEIVED := Sta.start ev_RECEIVED (Or.inr ⟨(hw _ (List.mem_of_getElem? (i := 6) rfl)), (hw _ (List.mem_of_getElem? (i := 53) rfl))⟩)
  obtain ⟨u_GET, ev_GET⟩ := exa_v nn52a
  have E_u_GET := Exa.start ev_GET nn52a
  have S_GET := Sta.start ev_GET (Or.inr ⟨(hw _ (List.mem_of_getElem? (i := 6) rfl)), (hw _ (List.mem_of_getElem? (i := 55) rfl))⟩)
  obtain ⟨u_KEYS, ev_KEYS⟩ := exa_v nn55a
  have E_u_KEYS := Exa.start ev_KEYS nn55a
  have S_KEYS := Sta.start ev_KEYS (Or.inr ⟨(hw _ (List.mem_of_getElem? (i := 6) rfl)), (hw _ (List.mem_of_getElem? (i := 57) rfl))⟩)
  have F_code_u_READY := own_fld_start ev_READY nn2a
  have F_ordinal_u_READY := own_fld_start ev_READY nn4a
  have F_ordinal_u_REPLY := own_fld_start ev_REPLY nn5a
  have F_ordinal_u_ERROR := own_fld_start ev_ERROR nn7a
  have F_code_u_HEARTBEAT := own_fld_start ev_HEARTBEAT nn9a
  have F_ordinal_u_HEARTBEAT := own_fld_start ev_HEARTBEAT nn10a
  have F_code_u_WAIT := own_fld_start ev_WAIT nn12a
  have F_ordinal_u_WAIT := own_fld_start ev_WAIT nn13a
  have F_code_u_ERROR := own_fld_start ev_ERROR nn14a
  have F_code_u_STOP := own_fld_start ev_STOP nn16a
  have F_ordinal_u_STOP := own_fld_start ev_STOP nn17a
  have F_code_u_SUBSCRIBE := own_fld_start ev_SUBSCRIBE nn19a
  have F_ordinal_u_SUBSCRIBE := own_fld_start ev_SUBSCRIBE nn20a
  have F_code_u_REPLY := own_fld_start ev_REPLY nn21a
  have F_code_u_GONE := own_fld_start ev_GONE nn23a
  have F_ordinal_u_GONE := own_fld_start ev_GONE nn24a
  have F_code_u_HOLD := own_fld_start ev_HOLD nn26a
  have F_ordinal_u_HOLD := own_fld_start ev_HOLD nn27a
  have F_code_u_PUBLISH := own_fld_start ev_PUBLISH nn29a
  have F_ordinal_u_PUBLISH := own_fld_start ev_PUBLISH nn30a
  have F_code_u_REQUEST := own_fld_start ev_REQUEST nn32a
  have F_ordinal_u_REQUEST := own_fld_start ev_REQUEST nn33a
  have F_code_u_WATCH := own_fld_start ev_WATCH nn35a
  have F_ordinal_u_WATCH := own_fld_start ev_WATCH nn36a
  have F_code_u_START := own_fld_start ev_START nn38a
  have F_ordinal_u_START := own_fld_start ev_START nn39a
  have F_code_u_HEALTH := own_fld_start ev_HEALTH nn41a
  have F_ordinal_u_HEALTH := own_fld_start ev_HEALTH nn42a
  have F_code_u_RESTART := own_fld_start ev_RESTART nn44a
  have F_ordinal_u_RESTART := own_fld_start ev_RESTART nn45a
  have F_code_u_DISCONNECT := own_fld_start ev_DISCONNECT nn47a
  have F_ordinal_u_DISCONNECT := own_fld_start ev_DISCONNECT nn48a
  have F_code_u_RECEIVED := own_fld_start ev_RECEIVED nn50a
  have F_ordinal_u_RECEIVED := own_fld_start ev_RECEIVED nn51a
  have F_code_u_GET := own_fld_start ev_GET nn53a
  have F_ordinal_u_GET := own_fld_start ev_GET nn54a
  have F_code_u_KEYS := own_fld_start ev_KEYS nn56a
  have F_ordinal_u_KEYS := own_fld_start ev_KEYS nn56b
  have nr_READY := Fld.ne F_code_u_READY F_code_u_REPLY (by decide)
  have ns_READY := Fld.ne F_code_u_READY F_code_u_ERROR (by decide)
  have nr_REQUEST := Fld.ne F_code_u_REQUEST F_code_u_REPLY (by decide)
  have ns_REQUEST := Fld.ne F_code_u_REQUEST F_code_u_ERROR (by decide)
  have nr_HEARTBEAT := Fld.ne F_code_u_HEARTBEAT F_code_u_REPLY (by decide)
  have ns_HEARTBEAT := Fld.ne F_code_u_HEARTBEAT F_code_u_ERROR (by decide)
  have nr_DISCONNECT := Fld.ne F_code_u_DISCONNECT F_code_u_REPLY (by decide)
  have ns_DISCONNECT := Fld.ne F_code_u_DISCONNECT F_code_u_ERROR (by decide)
  have nr_HEALTH := Fld.ne F_code_u_HEALTH F_code_u_REPLY (by decide)
  have ns_HEALTH := Fld.ne F_code_u_HEALTH F_code_u_ERROR (by decide)
  have nr_SUBSCRIBE := Fld.ne F_code_u_SUBSCRIBE F_code_u_REPLY (by decide)
  have ns_SUBSCRIBE := Fld.ne F_code_u_SUBSCRIBE F_code_u_ERROR (by decide)
  have nr_PUBLISH := Fld.ne F_code_u_PUBLISH F_code_u_REPLY (by decide)
  have ns_PUBLISH := Fld.ne F_code_u_PUBLISH F_code_u_ERROR (by decide)
  have nr_RECEIVED := Fld.ne F_code_u_RECEIVED F_code_u_REPLY (by decide)
  have ns_RECEIVED := Fld.ne F_code_u_RECEIVED F_code_u_ERROR (by decide)
  have nr_HOLD := Fld.ne F_code_u_HOLD F_code_u_REPLY (by decide)
  have ns_HOLD := Fld.ne F_code_u_HOLD F_code_u_ERROR (by decide)
  have nr_GONE := Fld.ne F_code_u_GONE F_code_u_REPLY (by decide)
  have ns_GONE := Fld.ne F_code_u_GONE F_code_u_ERROR (by decide)
  have nr_GET := Fld.ne F_code_u_GET F_code_u_REPLY (by decide)
  have ns_GET := Fld.ne F_code_u_GET F_code_u_ERROR (by decide)
  have nr_KEYS := Fld.ne F_code_u_KEYS F_code_u_REPLY (by decide)
  have ns_KEYS := Fld.ne F_code_u_KEYS F_code_u_ERROR (by decide)
  have nr_WATCH := Fld.ne F_code_u_WATCH F_code_u_REPLY (by decide)
  have ns_WATCH := Fld.ne F_code_u_WATCH F_code_u_ERROR (by decide)
  have nr_WAIT := Fld.ne F_code_u_WAIT F_code_u_REPLY (by decide)
  have ns_WAIT := Fld.ne F_code_u_WAIT F_code_u_ERROR (by decide)
  have nr_RESTART := Fld.ne F_code_u_RESTART F_code_u_REPLY (by decide)
  have ns_RESTART := Fld.ne F_code_u_RESTART F_code_u_ERROR (by decide)
  have nr_STOP := Fld.ne F_code_u_STOP F_code_u_REPLY (by decide)
  have ns_STOP := Fld.ne F_code_u_STOP F_code_u_ERROR (by decide)
  have nr_START := Fld.ne F_code_u_START F_code_u_REPLY (by decide)
  have ns_START := Fld.ne F_code_u_START F_code_u_ERROR (by decide)
  obtain ⟨n, o, h1, h2, h3, _, L, rfl, ⟨rfl, N⟩, hq⟩ := rm0 l s _ hw i0 u_READY u_REQUEST u_REPLY u_HEARTBEAT u_DISCONNECT u_ERROR u_HEALTH u_SUBSCRIBE u_PUBLISH u_RECEIVED u_HOLD u_GONE u_GET u_KEYS u_WATCH u_WAIT u_RESTART u_STOP u_START s.heap s.heap.size (Nat.le_refl _) nr_READY ns_READY nr_REQUEST ns_REQUEST nr_HEARTBEAT ns_HEARTBEAT nr_DISCONNECT ns_DISCONNECT nr_HEALTH ns_HEALTH nr_SUBSCRIBE ns_SUBSCRIBE nr_PUBLISH ns_PUBLISH nr_RECEIVED ns_RECEIVED nr_HOLD ns_HOLD nr_GONE ns_GONE nr_GET ns_GET nr_KEYS ns_KEYS nr_WATCH ns_WATCH nr_WAIT ns_WAIT nr_RESTART ns_RESTART nr_STOP ns_STOP nr_START ns_START S_READY F_code_u_READY E_u_READY S_REPLY S_ERROR S_REQUEST F_code_u_REQUEST E_u_REQUEST F_code_u_REPLY E_u_REPLY S_HEARTBEAT F_code_u_HEARTBEAT E_u_HEARTBEAT S_DISCONNECT F_code_u_DISCONNECT E_u_DISCONNECT F_code_u_ERROR E_u_ERROR S_HEALTH F_code_u_HEALTH E_u_HEALTH S_SUBSCRIBE F_code_u_SUBSCRIBE E_u_SUBSCRIBE S_PUBLISH F_code_u_PUBLISH E_u_PUBLISH S_RECEIVED F_code_u_RECEIVED E_u_RECEIVED S_HOLD F_code_u_HOLD E_u_HOLD S_GONE F_code_u_GONE E_u_GONE S_GET F_code_u_GET E_u_GET S_KEYS F_code_u_KEYS E_u_KEYS S_WATCH F_code_u_WATCH E_u_WATCH S_WAIT F_code_u_WAIT E_u_WAIT S_RESTART F_code_u_RESTART E_u_RESTART S_STOP F_code_u_STOP E_u_STOP S_START F_code_u_START E_u_START tables_1 p e ha hc hk s m _ below hf ((Spec.applies_iff_loose hf).mp happ).1 ⟨rfl, State.Warmed39.refl s, rfl⟩ trivial
  refine ⟨n, _, h1, h2, h3, hpost _ _ _ _ _ _ ⟨Cond.after_iff.mpr rfl, Cond.after_iff.mpr (eq_i res_at (Term.int_eval (1)) rfl), trivial⟩ ⟨hq.1, hq.2.1, (hq.2.2.sift fun y hy => Or.inr (N y hy)).mono (by decide) (by decide)⟩⟩
theorem main_1_1 : Claimed_1_1 := comes_1 fun _ _ _ _ _ _ h hF => ⟨h.1, hF⟩
theorem main_1_2 : Claimed_1_2 := comes_1 fun _ _ _ _ _ _ h hF => ⟨h.2.1, hF⟩
end Jvm.Pilot.@@N@@
namespace Jvm.Pilot.@@N@@
open Jvm Jvm.ClassFile Sem Op Lib Jvm.Free Jvm.Stand Jvm.Pilot.@@N@@.Jvm.D
/-! MADE BY PROGRAM (witnessworld.py) out of the Statement's table words and the real class files: 13 classes; the members and pool entries that the words name. The judged class is class 1, her method 2. -/
namespace start1
open Jvm.ClassFile
def u (s : String) : CpInfo := .utf8 (stringToUtf16 s)
/-- a pool by its gaps: so many unusable entries, then the entry; so many at the end -/
def gap : Nat → List CpInfo → List CpInfo
  | 0, r => r
  | n + 1, r => .unusable :: gap n r
def poolList (es : List (Nat × CpInfo)) (last : Nat) : List CpInfo := es.foldr (fun e r => gap e.1 (e.2 :: r)) (gap last [])
def pool (es : List (Nat × CpInfo)) (last : Nat) : Array CpInfo := ⟨poolList es last⟩
def fileOf (pool : Array CpInfo) (this : Nat) (attrs : Array Attribute := #[]) (ms : Array MethodInfo := #[]) (fl : Nat := 33) (sup : Nat := 0) (ifs : Array Nat := #[]) (fds : Array FieldInfo := #[]) : ClassFile where
  minorVersion := 0
  majorVersion := 65
  constantPool := pool
  accessFlags := fl
  thisClass := this
  superClass := sup
  interfaces := ifs
  fields := fds
  methods := ms
  attributes := attrs
def plain (name : String) (sup : Option ClassId) : Class where
  name := name
  kind := .ordinary
  loader := none
  accessFlags := 33
  super := sup
  interfaces := #[]
  cf := none
  fields := #[]
  methods := #[]
  instanceTypes := #[]
  staticTypes := #[]
  resolved := #[]
  callSites := []
  init := .initialized
  statics := none
  mirror := none

def pool0 : Array CpInfo := pool [(5, u "<init>"), (0, u "()V"), (1, .class_ 10), (1, u "java/lang/Object")] 113

def k0m0 : Method := { name := "<init>", desc := "()V", sig := { parameters := [], returnType := none }, accessFlags := 1, code := none }
/-- java/lang/Object -/
def k0 : Class := { plain "java/lang/Object" none with
  accessFlags := 33
  interfaces := #[]
  cf := some (fileOf pool0 8 #[] #[{ accessFlags := 1, nameIndex := 5, descriptorIndex := 6, attributes := #[] }] 33 0 #[] #[])
  fields := #[]
  methods := #[k0m0]
  instanceTypes := #[]
  staticTypes := #[]
  resolved := Array.replicate 124 none
  statics := none }

def pool1 : Array CpInfo := pool [(2, .class_ 4), (1, u "java/lang/Object"), (0, u "<init>"), (0, u "()V"), (0, .fieldref 8 9), (0, .class_ 10), (0, .nameAndType 11 12), (0, u "com/example/intrcom/intrcom/Command"), (0, u "READY"), (0, u "Lcom/example/intrcom/intrcom/Command;"), (0, .fieldref 8 14), (0, .nameAndType 15 12), (0, u "REQUEST"), (0, .fieldref 8 17), (0, .nameAndType 18 12), (0, u "REPLY"), (0, .fieldref 8 20), (0, .nameAndType 21 12), (0, u "HEARTBEAT"), (0, .fieldref 8 23), (0, .nameAndType 24 12), (0, u "DISCONNECT"), (0, .fieldref 8 26), (0, .nameAndType 27 12), (0, u "ERROR"), (0, .fieldref 8 29), (0, .nameAndType 30 12), (0, u "HEALTH"), (0, .fieldref 8 32), (0, .nameAndType 33 12), (0, u "SUBSCRIBE"), (0, .fieldref 8 35), (0, .nameAndType 36 12), (0, u "PUBLISH"), (0, .fieldref 8 38), (0, .nameAndType 39 12), (0, u "RECEIVED"), (0, .fieldref 8 41), (0, .nameAndType 42 12), (0, u "HOLD"), (0, .fieldref 8 44), (0, .nameAndType 45 12), (0, u "GONE"), (0, .fieldref 8 47), (0, .nameAndType 48 12), (0, u "GET"), (0, .fieldref 8 50), (0, .nameAndType 51 12), (0, u "KEYS"), (0, .fieldref 8 53), (0, .nameAndType 54 12), (0, u "WATCH"), (0, .fieldref 8 56), (0, .nameAndType 57 12), (0, u "WAIT"), (0, .fieldref 8 59), (0, .nameAndType 60 12), (0, u "RESTART"), (0, .fieldref 8 62), (0, .nameAndType 63 12), (0, u "STOP"), (0, .fieldref 8 65), (0, .nameAndType 66 12), (0, u "START"), (0, .integer 2147483647), (0, .methodref 69 70), (0, .class_ 71), (0, .nameAndType 72 73), (0, u "com/example/intrcom/intrcom/CommandIsAnswerPinLaw"), (0, u "pick"), (0, u "(I)Lcom/example/intrcom/intrcom/Command;"), (0, .methodref 8 75), (0, .nameAndType 76 77), (0, u "code"), (0, u "()I"), (0, .methodref 8 79), (0, .nameAndType 80 81), (0, u "isAnswer"), (0, u "()Z"), (3, u "law"), (0, u "(I)Z")] 2

def k1m0 : Method := { name := "<init>", desc := "()V", sig := { parameters := [], returnType := none }, accessFlags := 1, code := none }
def k1c1 : Code := { maxStack := 2, maxLocals := 1, code := method_2_code, exceptionTable := #[], attributes := #[] }
def k1m1 : Method := { name := "pick", desc := "(I)Lcom/example/intrcom/intrcom/Command;", sig := { parameters := [.int], returnType := some (.object "com/example/intrcom/intrcom/Command") }, accessFlags := 10, code := some k1c1 }
def k1c2 : Code := { maxStack := 3, maxLocals := 5, code := code, exceptionTable := #[], attributes := #[] }
def k1m2 : Method := { name := "law", desc := "(I)Z", sig := { parameters := [.int], returnType := some .boolean }, accessFlags := 9, code := some k1c2 }
/-- com/example/intrcom/intrcom/CommandIsAnswerPinLaw -/
def k1 : Class := { plain "com/example/intrcom/intrcom/CommandIsAnswerPinLaw" (some 0) with
  accessFlags := 49
  interfaces := #[]
  cf := some (fileOf pool1 69 #[] #[{ accessFlags := 1, nameIndex := 5, descriptorIndex := 6, attributes := #[] }, { accessFlags := 10, nameIndex := 72, descriptorIndex := 73, attributes := #[] }, { accessFlags := 9, nameIndex := 85, descriptorIndex := 86, attributes := #[] }] 49 2 #[] #[])
  fields := #[]
  methods := #[k1m0, k1m1, k1m2]
  instanceTypes := #[]
  staticTypes := #[]
  resolved := Array.replicate 89 none
  statics := none }

def pool2 : Array CpInfo := pool [(1, .class_ 2), (0, u "java/lang/constant/Constable"), (0, .class_ 4), (0, u "java/lang/Object")] 6

/-- java/lang/constant/Constable -/
def k2 : Class := { plain "java/lang/constant/Constable" (some 0) with
  accessFlags := 1537
  interfaces := #[]
  cf := some (fileOf pool2 1 #[] #[] 1537 3 #[] #[])
  fields := #[]
  methods := #[]
  instanceTypes := #[]
  staticTypes := #[]
  resolved := Array.replicate 11 none
  statics := none }

def pool3 : Array CpInfo := pool [(1, .class_ 2), (0, u "java/lang/Comparable"), (0, .class_ 4), (0, u "java/lang/Object")] 7

/-- java/lang/Comparable -/
def k3 : Class := { plain "java/lang/Comparable" (some 0) with
  accessFlags := 1537
  interfaces := #[]
  cf := some (fileOf pool3 1 #[] #[] 1537 3 #[] #[])
  fields := #[]
  methods := #[]
  instanceTypes := #[]
  staticTypes := #[]
  resolved := Array.replicate 12 none
  statics := none }

def pool4 : Array CpInfo := pool [(1, .class_ 2), (0, u "java/io/Serializable"), (0, .class_ 4), (0, u "java/lang/Object")] 2

/-- java/io/Serializable -/
def k4 : Class := { plain "java/io/Serializable" (some 0) with
  accessFlags := 1537
  interfaces := #[]
  cf := some (fileOf pool4 1 #[] #[] 1537 3 #[] #[])
  fields := #[]
  methods := #[]
  instanceTypes := #[]
  staticTypes := #[]
  resolved := Array.replicate 7 none
  statics := none }

def pool5 : Array CpInfo := pool [(2, .class_ 4), (1, u "java/lang/Enum"), (0, u "name"), (0, u "Ljava/lang/String;"), (2, u "ordinal"), (0, u "I"), (1, .class_ 14), (1, u "java/lang/Object"), (4, u "hash"), (86, .class_ 108), (1, u "java/lang/Enum$EnumDesc"), (2, .class_ 112), (0, u "java/lang/constant/Constable"), (0, .class_ 114), (0, u "java/lang/Comparable"), (0, .class_ 116), (0, u "java/io/Serializable")] 87

/-- java/lang/Enum -/
def k5 : Class := { plain "java/lang/Enum" (some 0) with
  accessFlags := 1057
  interfaces := #[2, 3, 4]
  cf := some (fileOf pool5 2 #[.nestMembers #[106]] #[] 1057 12 #[111, 113, 115] #[{ accessFlags := 18, nameIndex := 5, descriptorIndex := 6, attributes := #[] }, { accessFlags := 18, nameIndex := 9, descriptorIndex := 10, attributes := #[] }, { accessFlags := 2, nameIndex := 19, descriptorIndex := 10, attributes := #[] }])
  fields := #[{ name := "name", type := (.object "java/lang/String"), accessFlags := 18, slot := 0, constantValue := 0 }, { name := "ordinal", type := .int, accessFlags := 18, slot := 1, constantValue := 0 }, { name := "hash", type := .int, accessFlags := 2, slot := 2, constantValue := 0 }]
  methods := #[]
  instanceTypes := #[(.object "java/lang/String"), .int, .int]
  staticTypes := #[]
  resolved := Array.replicate 204 none
  statics := none }

def pool6 : Array CpInfo := pool [(2, .class_ 4), (1, u "com/example/intrcom/intrcom/LayoutCode"), (12, .class_ 18), (0, u "java/lang/Object")] 11

/-- com/example/intrcom/intrcom/LayoutCode -/
def k6 : Class := { plain "com/example/intrcom/intrcom/LayoutCode" (some 0) with
  accessFlags := 1536
  interfaces := #[]
  cf := some (fileOf pool6 2 #[] #[] 1536 17 #[] #[])
  fields := #[]
  methods := #[]
  instanceTypes := #[]
  staticTypes := #[]
  resolved := Array.replicate 30 none
  statics := none }

def pool7 : Array CpInfo := pool [(1, .class_ 2), (0, u "com/example/intrcom/intrcom/Command"), (2, u "READY"), (0, u "Lcom/example/intrcom/intrcom/Command;"), (2, u "REQUEST"), (0, .fieldref 1 11), (0, .nameAndType 12 6), (0, u "REPLY"), (2, u "HEARTBEAT"), (2, u "DISCONNECT"), (0, .fieldref 1 20), (0, .nameAndType 21 6), (0, u "ERROR"), (2, u "HEALTH"), (2, u "SUBSCRIBE"), (2, u "PUBLISH"), (2, u "RECEIVED"), (2, u "HOLD"), (2, u "GONE"), (2, u "GET"), (2, u "KEYS"), (2, u "WATCH"), (2, u "WAIT"), (2, u "RESTART"), (2, u "STOP"), (2, u "START"), (2, u "$VALUES"), (0, u "[Lcom/example/intrcom/intrcom/Command;"), (6, .class_ 73), (1, u "java/lang/Enum"), (6, .fieldref 1 81), (0, .nameAndType 82 83), (0, u "code"), (0, u "I"), (2, u "nameRequired"), (0, u "Z"), (2, u "passedOn"), (26, .class_ 118), (0, u "com/example/intrcom/intrcom/LayoutCode"), (7, u "()I"), (0, u "()Z"), (0, u "isAnswer")] 6

def k7c0 : Code := { maxStack := 1, maxLocals := 1, code := prog_4_method_4_code, exceptionTable := #[], attributes := #[] }
def k7m0 : Method := { name := "code", desc := "()I", sig := { parameters := [], returnType := some .int }, accessFlags := 1, code := some k7c0 }
def k7c1 : Code := { maxStack := 2, maxLocals := 1, code := prog_4_method_7_code, exceptionTable := #[], attributes := #[] }
def k7m1 : Method := { name := "isAnswer", desc := "()Z", sig := { parameters := [], returnType := some .boolean }, accessFlags := 0, code := some k7c1 }
/-- com/example/intrcom/intrcom/Command -/
def k7 : Class := { plain "com/example/intrcom/intrcom/Command" (some 5) with
  accessFlags := 16432
  interfaces := #[6]
  cf := some (fileOf pool7 1 #[] #[{ accessFlags := 1, nameIndex := 82, descriptorIndex := 126, attributes := #[] }, { accessFlags := 0, nameIndex := 128, descriptorIndex := 127, attributes := #[] }] 16432 71 #[117] #[{ accessFlags := 16409, nameIndex := 5, descriptorIndex := 6, attributes := #[] }, { accessFlags := 16409, nameIndex := 9, descriptorIndex := 6, attributes := #[] }, { accessFlags := 16409, nameIndex := 12, descriptorIndex := 6, attributes := #[] }, { accessFlags := 16409, nameIndex := 15, descriptorIndex := 6, attributes := #[] }, { accessFlags := 16409, nameIndex := 18, descriptorIndex := 6, attributes := #[] }, { accessFlags := 16409, nameIndex := 21, descriptorIndex := 6, attributes := #[] }, { accessFlags := 16409, nameIndex := 24, descriptorIndex := 6, attributes := #[] }, { accessFlags := 16409, nameIndex := 27, descriptorIndex := 6, attributes := #[] }, { accessFlags := 16409, nameIndex := 30, descriptorIndex := 6, attributes := #[] }, { accessFlags := 16409, nameIndex := 33, descriptorIndex := 6, attributes := #[] }, { accessFlags := 16409, nameIndex := 36, descriptorIndex := 6, attributes := #[] }, { accessFlags := 16409, nameIndex := 39, descriptorIndex := 6, attributes := #[] }, { accessFlags := 16409, nameIndex := 42, descriptorIndex := 6, attributes := #[] }, { accessFlags := 16409, nameIndex := 45, descriptorIndex := 6, attributes := #[] }, { accessFlags := 16409, nameIndex := 48, descriptorIndex := 6, attributes := #[] }, { accessFlags := 16409, nameIndex := 51, descriptorIndex := 6, attributes := #[] }, { accessFlags := 16409, nameIndex := 54, descriptorIndex := 6, attributes := #[] }, { accessFlags := 16409, nameIndex := 57, descriptorIndex := 6, attributes := #[] }, { accessFlags := 16409, nameIndex := 60, descriptorIndex := 6, attributes := #[] }, { accessFlags := 18, nameIndex := 82, descriptorIndex := 83, attributes := #[] }, { accessFlags := 18, nameIndex := 86, descriptorIndex := 87, attributes := #[] }, { accessFlags := 18, nameIndex := 90, descriptorIndex := 87, attributes := #[] }, { accessFlags := 4122, nameIndex := 63, descriptorIndex := 64, attributes := #[] }])
  fields := #[{ name := "READY", type := (.object "com/example/intrcom/intrcom/Command"), accessFlags := 16409, slot := 0, constantValue := 0 }, { name := "REQUEST", type := (.object "com/example/intrcom/intrcom/Command"), accessFlags := 16409, slot := 1, constantValue := 0 }, { name := "REPLY", type := (.object "com/example/intrcom/intrcom/Command"), accessFlags := 16409, slot := 2, constantValue := 0 }, { name := "HEARTBEAT", type := (.object "com/example/intrcom/intrcom/Command"), accessFlags := 16409, slot := 3, constantValue := 0 }, { name := "DISCONNECT", type := (.object "com/example/intrcom/intrcom/Command"), accessFlags := 16409, slot := 4, constantValue := 0 }, { name := "ERROR", type := (.object "com/example/intrcom/intrcom/Command"), accessFlags := 16409, slot := 5, constantValue := 0 }, { name := "HEALTH", type := (.object "com/example/intrcom/intrcom/Command"), accessFlags := 16409, slot := 6, constantValue := 0 }, { name := "SUBSCRIBE", type := (.object "com/example/intrcom/intrcom/Command"), accessFlags := 16409, slot := 7, constantValue := 0 }, { name := "PUBLISH", type := (.object "com/example/intrcom/intrcom/Command"), accessFlags := 16409, slot := 8, constantValue := 0 }, { name := "RECEIVED", type := (.object "com/example/intrcom/intrcom/Command"), accessFlags := 16409, slot := 9, constantValue := 0 }, { name := "HOLD", type := (.object "com/example/intrcom/intrcom/Command"), accessFlags := 16409, slot := 10, constantValue := 0 }, { name := "GONE", type := (.object "com/example/intrcom/intrcom/Command"), accessFlags := 16409, slot := 11, constantValue := 0 }, { name := "GET", type := (.object "com/example/intrcom/intrcom/Command"), accessFlags := 16409, slot := 12, constantValue := 0 }, { name := "KEYS", type := (.object "com/example/intrcom/intrcom/Command"), accessFlags := 16409, slot := 13, constantValue := 0 }, { name := "WATCH", type := (.object "com/example/intrcom/intrcom/Command"), accessFlags := 16409, slot := 14, constantValue := 0 }, { name := "WAIT", type := (.object "com/example/intrcom/intrcom/Command"), accessFlags := 16409, slot := 15, constantValue := 0 }, { name := "RESTART", type := (.object "com/example/intrcom/intrcom/Command"), accessFlags := 16409, slot := 16, constantValue := 0 }, { name := "STOP", type := (.object "com/example/intrcom/intrcom/Command"), accessFlags := 16409, slot := 17, constantValue := 0 }, { name := "START", type := (.object "com/example/intrcom/intrcom/Command"), accessFlags := 16409, slot := 18, constantValue := 0 }, { name := "code", type := .int, accessFlags := 18, slot := 3, constantValue := 0 }, { name := "nameRequired", type := .boolean, accessFlags := 18, slot := 4, constantValue := 0 }, { name := "passedOn", type := .boolean, accessFlags := 18, slot := 5, constantValue := 0 }, { name := "$VALUES", type := (.array (.object "com/example/intrcom/intrcom/Command")), accessFlags := 4122, slot := 19, constantValue := 0 }]
  methods := #[k7m0, k7m1]
  instanceTypes := #[(.object "java/lang/String"), .int, .int, .int, .boolean, .boolean]
  staticTypes := #[(.object "com/example/intrcom/intrcom/Command"), (.object "com/example/intrcom/intrcom/Command"), (.object "com/example/intrcom/intrcom/Command"), (.object "com/example/intrcom/intrcom/Command"), (.object "com/example/intrcom/intrcom/Command"), (.object "com/example/intrcom/intrcom/Command"), (.object "com/example/intrcom/intrcom/Command"), (.object "com/example/intrcom/intrcom/Command"), (.object "com/example/intrcom/intrcom/Command"), (.object "com/example/intrcom/intrcom/Command"), (.object "com/example/intrcom/intrcom/Command"), (.object "com/example/intrcom/intrcom/Command"), (.object "com/example/intrcom/intrcom/Command"), (.object "com/example/intrcom/intrcom/Command"), (.object "com/example/intrcom/intrcom/Command"), (.object "com/example/intrcom/intrcom/Command"), (.object "com/example/intrcom/intrcom/Command"), (.object "com/example/intrcom/intrcom/Command"), (.object "com/example/intrcom/intrcom/Command"), (.array (.object "com/example/intrcom/intrcom/Command"))]
  resolved := Array.replicate 135 none
  statics := some 0 }

def pool8 : Array CpInfo := pool [(1, u "java/lang/Cloneable"), (0, .class_ 1), (0, u "java/lang/Object"), (0, .class_ 3)] 3

/-- java/lang/Cloneable -/
def k8 : Class := { plain "java/lang/Cloneable" (some 0) with
  accessFlags := 1537
  interfaces := #[]
  cf := some (fileOf pool8 2 #[] #[] 1537 4 #[] #[])
  fields := #[]
  methods := #[]
  instanceTypes := #[]
  staticTypes := #[]
  resolved := Array.replicate 8 none
  statics := none }

/-- the primitive byte -/
def k9 : Class := { plain "byte" none with kind := .primitive 'B', accessFlags := 0x411 }
/-- [B -/
def k10 : Class := { plain "[B" (some 0) with kind := .array 9 .byte, interfaces := #[8, 4], accessFlags := 1041 }

/-- the primitive int -/
def k11 : Class := { plain "int" none with kind := .primitive 'I', accessFlags := 0x411 }
/-- [I -/
def k12 : Class := { plain "[I" (some 0) with kind := .array 11 .int, interfaces := #[8, 4], accessFlags := 1041 }

def heap : Heap := #[{ cls := 7, slots := #[.ref 1, .ref 11, .ref 2, .ref 4, .ref 16, .ref 3, .ref 14, .ref 7, .ref 10, .ref 17, .ref 9, .ref 8, .ref 18, .ref 19, .ref 12, .ref 5, .ref 15, .ref 6, .ref 13, .null], vm := .statics 7 },
  { cls := 7, slots := #[.null, .int 0, .int 0, .int 1, .int 0, .int 0], vm := .none },
  { cls := 7, slots := #[.null, .int 2, .int 0, .int 3, .int 0, .int 0], vm := .none },
  { cls := 7, slots := #[.null, .int 5, .int 0, .int 6, .int 0, .int 0], vm := .none },
  { cls := 7, slots := #[.null, .int 3, .int 0, .int 4, .int 0, .int 0], vm := .none },
  { cls := 7, slots := #[.null, .int 15, .int 0, .int 16, .int 0, .int 0], vm := .none },
  { cls := 7, slots := #[.null, .int 17, .int 0, .int 18, .int 0, .int 0], vm := .none },
  { cls := 7, slots := #[.null, .int 7, .int 0, .int 8, .int 0, .int 0], vm := .none },
  { cls := 7, slots := #[.null, .int 11, .int 0, .int 12, .int 0, .int 0], vm := .none },
  { cls := 7, slots := #[.null, .int 10, .int 0, .int 11, .int 0, .int 0], vm := .none },
  { cls := 7, slots := #[.null, .int 8, .int 0, .int 9, .int 0, .int 0], vm := .none },
  { cls := 7, slots := #[.null, .int 1, .int 0, .int 2, .int 0, .int 0], vm := .none },
  { cls := 7, slots := #[.null, .int 14, .int 0, .int 15, .int 0, .int 0], vm := .none },
  { cls := 7, slots := #[.null, .int 18, .int 0, .int 19, .int 0, .int 0], vm := .none },
  { cls := 7, slots := #[.null, .int 6, .int 0, .int 7, .int 0, .int 0], vm := .none },
  { cls := 7, slots := #[.null, .int 16, .int 0, .int 17, .int 0, .int 0], vm := .none },
  { cls := 7, slots := #[.null, .int 4, .int 0, .int 5, .int 0, .int 0], vm := .none },
  { cls := 7, slots := #[.null, .int 9, .int 0, .int 10, .int 0, .int 0], vm := .none },
  { cls := 7, slots := #[.null, .int 12, .int 0, .int 13, .int 0, .int 0], vm := .none },
  { cls := 7, slots := #[.null, .int 13, .int 0, .int 14, .int 0, .int 0], vm := .none }]
def classes : Array Class := #[k0, k1, k2, k3, k4, k5, k6, k7, k8, k9, k10, k11, k12]
def interned : List (Array UInt16 × Addr) := []
def slotsUsed : Nat := 134
def theMethod : MethodId := ⟨1, 2⟩
def args0 : Array Value := #[.int 3]
def aboutOver (below : List Frame) : State where
  vm := { classes := classes, interned := interned.toArray }
  heap := heap
  slotsUsed := slotsUsed
  threads := #[{ frames := .invoking theMethod args0 :: below }]
def below0 : List Frame := [.native { method := ⟨0, 0⟩, args := #[] }]
def about1 : State := aboutOver below0
def p0 : Program := .bare "" "" ""
def e0 : Env := launch0.env 0 0 0
theorem w_frames : about1.frames = Frame.invoking theMethod args0 :: below0 := rfl
set_option maxRecDepth 65536 in
theorem w_args : argsFit about1.vm theMethod args0 = true := by decide +kernel
set_option maxRecDepth 65536 in
theorem w_heap : heapFits about1 = true := by decide +kernel
set_option maxRecDepth 65536 in
theorem w_runnable : about1.curStatus? = some .runnable := by decide +kernel
set_option maxRecDepth 65536 in
theorem w_alone : about1.alone = true := by decide +kernel
set_option maxRecDepth 65536 in
theorem w_named : about1.methodNamed? x = some theMethod := by decide +kernel
set_option maxRecDepth 65536 in
theorem w_hears : about1.hears theMethod below0 = true := by decide +kernel
set_option maxRecDepth 65536 in
theorem w_ripe : about1.ripe theMethod args0 below0 = true := by decide +kernel
theorem w_running : about1.status = .running := rfl
set_option maxRecDepth 65536 in
theorem w_room : about1.hasRoom e0.platform room_1 = true :=
  launch0.hasRoom_least _ room_1 (by decide +kernel) (by decide +kernel) (by decide +kernel) (by decide +kernel) (by decide +kernel) (by decide +kernel)
theorem allAtoms_all (ts : List Jvm.Cond) (a : Array Jvm.Value) (st : Jvm.State) : (allAtoms ts).before a st = ts.all (fun c => c.before a st) := by
  induction ts with
  | nil => rfl
  | cons c t ih =>
    show (Jvm.Cond.and c (allAtoms t)).before a st = _
    rw [Jvm.Cond.before_and, ih, List.all_cons]
def words1 : List Jvm.Cond := Jvm.Cond.code x code maxLocals ret :: tables_1
/-- a 'code' word, met by the world's own term for the bytes: nothing is compared byte by byte -/
theorem code_word {y : MethodName} {bytes : ByteArray} {mx : Nat} {rt : Option FieldType} {a : Array Value} {s : State} {m : MethodId} {meth : Method} {c : Code} (h1 : s.methodNamed? y = some m) (h2 : s.vm.method? m = some meth) (h3 : meth.code = some c) (h4 : c.code = bytes)
    (h5 : (c.maxLocals == mx && c.exceptionTable.isEmpty && decide (c.maxStack ≤ mostOperands) && decide (meth.sig.returnType = rt) && !meth.locks && decide (parseMethodDescriptor y.desc = some meth.sig)) = true) : (Jvm.Cond.code y bytes mx rt).before a s = true := by
  simp only [Bool.and_eq_true, beq_iff_eq, Bool.not_eq_true', decide_eq_true_eq] at h5
  obtain ⟨⟨⟨⟨⟨g1, g2⟩, g3⟩, g4⟩, g5⟩, g6⟩ := h5
  simp [Cond.before, Cond.holds, Cond.value, h1, h2, h3, h4, g1, g2, g3, g4, g5, g6]
def isCode : Jvm.Cond → Bool
  | .code _ _ _ _ => true
  | _ => false
theorem all_split {L : List Jvm.Cond} {P : Jvm.Cond → Bool} (h1 : L.all (fun c => isCode c || P c) = true) (h2 : ∀ c ∈ L.filter isCode, P c = true) : L.all P = true := by
  refine List.all_eq_true.mpr fun c hc => ?_
  have h := List.all_eq_true.mp h1 c hc
  rcases Bool.eq_false_or_eq_true (isCode c) with hi | hi
  · exact h2 c (List.mem_filter.mpr ⟨hc, hi⟩)
  · simpa [hi] using h
set_option maxRecDepth 65536 in
theorem w_c0 : (Jvm.Cond.code x code maxLocals ret).before args0 about1 = true := code_word (m := ⟨1, 2⟩) (meth := k1m2) (c := k1c2) (by decide +kernel) rfl rfl rfl (by decide +kernel)
set_option maxRecDepth 65536 in
theorem w_c1 : (Jvm.Cond.code ({ cls := "com/example/intrcom/intrcom/CommandIsAnswerPinLaw", name := "pick", desc := "(I)Lcom/example/intrcom/intrcom/Command;" } : Jvm.MethodName) method_2_code (1 : Nat) (Option.some (Jvm.ClassFile.FieldType.object "com/example/intrcom/intrcom/Command"))).before args0 about1 = true := code_word (m := ⟨1, 1⟩) (meth := k1m1) (c := k1c1) (by decide +kernel) rfl rfl rfl (by decide +kernel)
set_option maxRecDepth 65536 in
theorem w_c2 : (Jvm.Cond.code ({ cls := "com/example/intrcom/intrcom/Command", name := "code", desc := "()I" } : Jvm.MethodName) prog_4_method_4_code (1 : Nat) (Option.some Jvm.ClassFile.FieldType.int)).before args0 about1 = true := code_word (m := ⟨7, 0⟩) (meth := k7m0) (c := k7c0) (by decide +kernel) rfl rfl rfl (by decide +kernel)
set_option maxRecDepth 65536 in
theorem w_c3 : (Jvm.Cond.code ({ cls := "com/example/intrcom/intrcom/Command", name := "isAnswer", desc := "()Z" } : Jvm.MethodName) prog_4_method_7_code (1 : Nat) (Option.some Jvm.ClassFile.FieldType.boolean)).before args0 about1 = true := code_word (m := ⟨7, 1⟩) (meth := k7m1) (c := k7c1) (by decide +kernel) rfl rfl rfl (by decide +kernel)
def codes1 : List Jvm.Cond := [Jvm.Cond.code x code maxLocals ret, Jvm.Cond.code ({ cls := "com/example/intrcom/intrcom/CommandIsAnswerPinLaw", name := "pick", desc := "(I)Lcom/example/intrcom/intrcom/Command;" } : Jvm.MethodName) method_2_code (1 : Nat) (Option.some (Jvm.ClassFile.FieldType.object "com/example/intrcom/intrcom/Command")), Jvm.Cond.code ({ cls := "com/example/intrcom/intrcom/Command", name := "code", desc := "()I" } : Jvm.MethodName) prog_4_method_4_code (1 : Nat) (Option.some Jvm.ClassFile.FieldType.int), Jvm.Cond.code ({ cls := "com/example/intrcom/intrcom/Command", name := "isAnswer", desc := "()Z" } : Jvm.MethodName) prog_4_method_7_code (1 : Nat) (Option.some Jvm.ClassFile.FieldType.boolean)]
set_option maxRecDepth 65536 in
theorem codes_eq : words1.filter isCode = codes1 := rfl
theorem w_codes : ∀ c ∈ words1.filter isCode, c.before args0 about1 = true := by
  rw [codes_eq]
  intro c hc
  simp only [codes1, List.mem_cons, List.not_mem_nil, or_false] at hc
  rcases hc with rfl | rfl | rfl | rfl
  · exact w_c0
  · exact w_c1
  · exact w_c2
  · exact w_c3
set_option maxRecDepth 65536 in
theorem w_t1 : (words1.take 24).all (fun c => isCode c || c.before args0 about1) = true := by decide +kernel
set_option maxRecDepth 65536 in
theorem w_t2 : ((words1.drop 24).take 24).all (fun c => isCode c || c.before args0 about1) = true := by decide +kernel
set_option maxRecDepth 65536 in
theorem w_t3 : ((words1.drop 24).drop 24).all (fun c => isCode c || c.before args0 about1) = true := by decide +kernel
theorem w_tables : (allAtoms (Jvm.Cond.code x code maxLocals ret :: tables_1)).before args0 about1 = true := by
  rw [allAtoms_all]
  show words1.all (fun c => c.before args0 about1) = true
  refine all_split ?_ w_codes
  rw [← List.take_append_drop 24 words1, List.all_append, w_t1, ← List.take_append_drop 24 (words1.drop 24), List.all_append, w_t2, w_t3]
  rfl
set_option maxRecDepth 65536 in
theorem w_case : (Jvm.Cond.and given_1 narrow_1).before args0 about1 = true := by decide +kernel
theorem w_applies : (headSpec (Jvm.Cond.code x code maxLocals ret :: tables_1) room_1).applies x e0.platform about1 = true :=
  (Spec.applies_iff w_frames).mpr ⟨w_running, w_runnable, w_alone, w_named, w_hears, w_ripe, w_room, w_tables⟩
theorem atStart : AtStart classFile x code maxLocals ret World_1 tables_1 room_1 Calls_1 rest_1 Pre_1 launch0 p0 e0 about1 theMethod args0 below0 :=
  ⟨lists_1, trivial, launch0.admits_env _ _ _, launch0.least_env, fairChoices_fair.cas, fairChoices_fair.clock, w_frames, w_args, w_heap, w_applies, trivial, trivial, w_case⟩
end start1
theorem witness_1 : WitnessClaimed_1 := ⟨start1.p0, start1.e0, start1.about1, start1.theMethod, start1.args0, start1.below0, start1.atStart⟩
end Jvm.Pilot.@@N@@

import JvmDerived
import JvmDerived.Pilot.@@N@@Statement
import JvmDerived.Pilot.@@N@@Code
set_option linter.unusedVariables false
set_option linter.unusedSimpArgs false
namespace Jvm.Pilot.@@N@@
open Jvm Jvm.ClassFile Sem Op Lib Jvm.Free Jvm.Stand Jvm.LawKit Jvm.RoadKit Bundle Jvm.Pilot.@@N@@.Jvm.D
/-! ## the run in continuation form: 'Go G T g': from T with the top frame g the run ends as G says -/
def Go (p : Program) (e : Env) (below : List Frame) (G : State → Outcome → Prop) (T : State) (g : JFrame) : Prop :=
  ∃ s₂ o, Steps p.tables e below (T.setTop g) s₂ ∧ s₂.status = .running ∧ Ended s₂ below o ∧ G s₂ o
/-- what a contract asks of the end -/
def FinQ (s : State) (Q : Option Value → Heap → List Loc → Prop) (kc ks : Nat) (U' : State) (o : Outcome) : Prop :=
  ∃ v L, o = .returned v ∧ Q v U'.heap L ∧ FrameEnd s o U' L kc ks
/-- a body's contract, as backOf takes it -/
def Met1 (l : Launch) (Z : State) (y : MethodName) (bytes : ByteArray) (maxL : Nat) (rt : Option FieldType) (rm : Room) (as : Array Value) (h0 : Heap) (Q : Option Value → Heap → List Loc → Prop) : Prop :=
  ∀ ws : List Jvm.Cond, MetFree l y (head1 (Jvm.Cond.code y bytes maxL rt :: ws) rm) (fun a U => a = as ∧ Z.Warmed39 U.vm ∧ U.heap = h0) (fun _ _ _ _ _ => True)
    (fun _ U o U' => ∃ v L, o = .returned v ∧ Q v U'.heap L ∧ FrameEnd U o U' L rm.cells rm.slots)
section OwnGo
variable {p : Program} {l : Launch} {e : Env} {R : Room} {s : State} {m : MethodId} {args : Array Value} {below : List Frame} {meth : Method} {c : Code} {T T' : State} {locs : List Loc} {cells slots : Nat} {G : State → Outcome → Prop} {Ls : Array Slot} {st : List Value} {pc : Nat} {bs : ByteArray} {Z : State} {a0 : Array Value} {h : Heap} {g g' : JFrame}
theorem Go.by (q : ∀ t, Steps p.tables e below (T'.setTop g') t → Steps p.tables e below (T.setTop g) t) (k : Go p e below G T' g') : Go p e below G T g := by
  obtain ⟨s₂, o, h1, h2⟩ := k
  exact ⟨s₂, o, q _ h1, h2⟩
theorem own_met_of {Z : State} {y : MethodName} {bytes : ByteArray} {maxL : Nat} {rt : Option FieldType} {rm : Room} {as : Array Value} {h0 : Heap} {Q : Option Value → Heap → List Loc → Prop} {Ls0 : Array Slot} (hpl : plainFor y = true) (ef : ∀ m, entryFrame m as maxL = mkF m 0 Ls0 [])
    (body : ∀ (p : Program) (e : Env) (s : State) (m : MethodId) (below : List Frame) (meth : Method) (c : Code) (s₁ : State), Stand p l e rm s m as below meth c s₁ [] 0 0 → p.tables.exec = Jvm.exec → c.code = bytes → c.maxLocals = maxL → Z.Warmed39 s.vm → s.vm.findClass y.cls = some m.cls → meth.name = y.name → meth.sig.returnType = rt → meth.locks = false → s₁.heap = h0 →
      Go p e below (FinQ s Q rm.cells rm.slots) s₁ (mkF m 0 Ls0 [])) : Met1 l Z y bytes maxL rt rm as h0 Q := by
  intro ws
  refine MetFree.of_bodySF hpl hisR ?_
  intro p e s m args below meth c s₁ Bd hml0 hP hK
  obtain ⟨rfl, hZ, hh⟩ := hP
  have k := body p e s m below meth c s₁ (Stand.of_body Bd) Bd.exec Bd.bytes hml0 hZ (findClass_of_methodNamed Bd.named) (name_of_methodNamed Bd.named Bd.method).1 Bd.returns Bd.notSynchronized (by rw [← hh, Bd.state]; rfl)
  rw [← ef m] at k
  exact k
theorem own_leave {Q : Option Value → Heap → List Loc → Prop} {kc ks : Nat} {v : Option Value} (X : Stand p l e R s m args below meth c T locs cells slots) (hv : meth.sig.returnType = none → v = none) (hlk : meth.locks = false) (hc : cells ≤ kc) (hs : slots ≤ ks) (hQ : Q v T.heap locs)
    (k : ∀ fs, (∀ (f : JFrame) (acts : List Action), f.method = m → f.locked = none → f.entered = [] → (doReturn e (T.setTop f) acts v).1 = T.setFrames fs) → Steps p.tables e below (T.setTop g) (T.setFrames fs)) : Go p e below (FinQ s Q kc ks) T g := by
  obtain ⟨fs, hr, hrun, hended, hW, hsame⟩ := X.leave (v := v) hv hlk
  exact ⟨_, _, k fs hr, hrun, hended, _, _, rfl, hQ, ⟨_, rfl⟩, hW, hsame.mono hc hs⟩
theorem own_retI {Q : Option Value → Heap → List Loc → Prop} {kc ks : Nat} {z : Int32} (X : Stand p l e R s m args below meth c T locs cells slots) (hx : p.tables.exec = Jvm.exec) (hby : c.code = bs) (hret : meth.sig.returnType = some .int) (hlk : meth.locks = false) (hd : decode bs pc = .ok (.ireturn, 1)) (hc : cells ≤ kc) (hs : slots ≤ ks) (hQ : Q (some (.int z)) T.heap locs) : Go p e below (FinQ s Q kc ks) T (mkF m pc Ls (.int z :: st)) := by
  refine own_leave X (fun q => by rw [hret] at q; cases q) hlk hc hs hQ fun fs hr => ?_
  exact retOut X hx hret rfl (Or.inl ⟨rfl, Or.inl rfl, z, rfl⟩) (hb hby hd) hr
theorem own_retN {Q : Option Value → Heap → List Loc → Prop} {kc ks : Nat} {z z' : Int32} {t : FieldType} (X : Stand p l e R s m args below meth c T locs cells slots) (hx : p.tables.exec = Jvm.exec) (hby : c.code = bs) (hret : meth.sig.returnType = some t) (hlk : meth.locks = false) (ht : t = .boolean ∨ t = .byte ∨ t = .char ∨ t = .short) (hd : decode bs pc = .ok (.ireturn, 1)) (hc : cells ≤ kc) (hs : slots ≤ ks) (hn : nar t z = z') (hQ : Q (some (.int z')) T.heap locs) : Go p e below (FinQ s Q kc ks) T (mkF m pc Ls (.int z :: st)) := by
  subst hn
  refine own_leave X (fun q => by rw [hret] at q; cases q) hlk hc hs hQ fun fs hr => ?_
  exact retN X hx hret ht (hb hby hd) hr
theorem own_retJ {Q : Option Value → Heap → List Loc → Prop} {kc ks : Nat} {z : Int64} (X : Stand p l e R s m args below meth c T locs cells slots) (hx : p.tables.exec = Jvm.exec) (hby : c.code = bs) (hret : meth.sig.returnType = some .long) (hlk : meth.locks = false) (hd : decode bs pc = .ok (.lreturn, 1)) (hc : cells ≤ kc) (hs : slots ≤ ks) (hQ : Q (some (.long z)) T.heap locs) : Go p e below (FinQ s Q kc ks) T (mkF m pc Ls (.long z :: st)) := by
  refine own_leave X (fun q => by rw [hret] at q; cases q) hlk hc hs hQ fun fs hr => ?_
  exact retOut X hx hret rfl (Or.inr (Or.inl ⟨rfl, rfl, z, rfl⟩)) (hb hby hd) hr
theorem own_retA {Q : Option Value → Heap → List Loc → Prop} {kc ks : Nat} {w : Value} {t : FieldType} (X : Stand p l e R s m args below meth c T locs cells slots) (hx : p.tables.exec = Jvm.exec) (hby : c.code = bs) (hret : meth.sig.returnType = some t) (hlk : meth.locks = false) (ht : t.isReference = true) (hw : w.isRef = true) (hn : narrow t w = w) (hd : decode bs pc = .ok (.areturn, 1)) (hc : cells ≤ kc) (hs : slots ≤ ks) (hQ : Q (some w) T.heap locs) : Go p e below (FinQ s Q kc ks) T (mkF m pc Ls (w :: st)) := by
  refine own_leave X (fun q => by rw [hret] at q; cases q) hlk hc hs hQ fun fs hr => ?_
  exact retOut X hx hret hn (Or.inr (Or.inr (Or.inr (Or.inr ⟨rfl, ht, hw⟩)))) (hb hby hd) hr
theorem own_ret {Q : Option Value → Heap → List Loc → Prop} {kc ks : Nat} (X : Stand p l e R s m args below meth c T locs cells slots) (hx : p.tables.exec = Jvm.exec) (hby : c.code = bs) (hret : meth.sig.returnType = none) (hlk : meth.locks = false) (hd : decode bs pc = .ok (.return_, 1)) (hc : cells ≤ kc) (hs : slots ≤ ks) (hQ : Q none T.heap locs) : Go p e below (FinQ s Q kc ks) T (mkF m pc Ls []) := by
  refine own_leave X (fun _ => rfl) hlk hc hs hQ fun fs hr => ?_
  exact X.returnOut hx hret (hb hby hd) hr
theorem own_iload (X : Stand p l e R s m args below meth c T locs cells slots) (hx : p.tables.exec = Jvm.exec) (hby : c.code = bs) {n : Nat} (v : Int32) (hd : decode bs pc = .ok (.iload n, 2)) (hl : Ls[n]? = some (.val (.int v))) (pc' : Nat) (hp : pc + 2 = pc') (k : Go p e below G T (mkF m pc' Ls (.int v :: st))) : Go p e below G T (mkF m pc Ls st) := by
  subst hp
  exact Go.by (fun t q => XS.iload X.here hx rfl (hb hby hd) hl q) k
theorem own_iloadN (X : Stand p l e R s m args below meth c T locs cells slots) (hx : p.tables.exec = Jvm.exec) (hby : c.code = bs) {n : Fin 4} (v : Int32) (hd : decode bs pc = .ok (.iload_n n, 1)) (hl : Ls[n.val]? = some (.val (.int v))) (pc' : Nat) (hp : pc + 1 = pc') (k : Go p e below G T (mkF m pc' Ls (.int v :: st))) : Go p e below G T (mkF m pc Ls st) := by
  subst hp
  exact Go.by (fun t q => XS.iloadN X.here hx rfl (hb hby hd) hl q) k
theorem own_istore (X : Stand p l e R s m args below meth c T locs cells slots) (hx : p.tables.exec = Jvm.exec) (hby : c.code = bs) {n : Nat} {x x' : Int32} (hd : decode bs pc = .ok (.istore n, 2)) (ex : x = x') {l' : Array Slot} (hl : storeLocals Ls n (.int x') = some l') (pc' : Nat) (hp : pc + 2 = pc') (k : Go p e below G T (mkF m pc' l' st)) : Go p e below G T (mkF m pc Ls (.int x :: st)) := by
  subst hp
  subst ex
  exact Go.by (fun t q => XS.istore X.here hx rfl (hb hby hd) rfl hl q) k
theorem own_istoreN (X : Stand p l e R s m args below meth c T locs cells slots) (hx : p.tables.exec = Jvm.exec) (hby : c.code = bs) {n : Fin 4} {x x' : Int32} (hd : decode bs pc = .ok (.istore_n n, 1)) (ex : x = x') {l' : Array Slot} (hl : storeLocals Ls n.val (.int x') = some l') (pc' : Nat) (hp : pc + 1 = pc') (k : Go p e below G T (mkF m pc' l' st)) : Go p e below G T (mkF m pc Ls (.int x :: st)) := by
  subst hp
  subst ex
  exact Go.by (fun t q => XS.istoreN X.here hx rfl (hb hby hd) rfl hl q) k
theorem own_lload (X : Stand p l e R s m args below meth c T locs cells slots) (hx : p.tables.exec = Jvm.exec) (hby : c.code = bs) {n : Nat} (v : Int64) (hd : decode bs pc = .ok (.lload n, 2)) (hl : Ls[n]? = some (.val (.long v))) (pc' : Nat) (hp : pc + 2 = pc') (k : Go p e below G T (mkF m pc' Ls (.long v :: st))) : Go p e below G T (mkF m pc Ls st) := by
  subst hp
  exact Go.by (fun t q => XS.lload X.here hx rfl (hb hby hd) hl q) k
theorem own_lloadN (X : Stand p l e R s m args below meth c T locs cells slots) (hx : p.tables.exec = Jvm.exec) (hby : c.code = bs) {n : Fin 4} (v : Int64) (hd : decode bs pc = .ok (.lload_n n, 1)) (hl : Ls[n.val]? = some (.val (.long v))) (pc' : Nat) (hp : pc + 1 = pc') (k : Go p e below G T (mkF m pc' Ls (.long v :: st))) : Go p e below G T (mkF m pc Ls st) := by
  subst hp
  exact Go.by (fun t q => XS.lloadN X.here hx rfl (hb hby hd) hl q) k
theorem own_lstore (X : Stand p l e R s m args below meth c T locs cells slots) (hx : p.tables.exec = Jvm.exec) (hby : c.code = bs) {n : Nat} {x x' : Int64} (hd : decode bs pc = .ok (.lstore n, 2)) (ex : x = x') {l' : Array Slot} (hl : storeLocals Ls n (.long x') = some l') (pc' : Nat) (hp : pc + 2 = pc') (k : Go p e below G T (mkF m pc' l' st)) : Go p e below G T (mkF m pc Ls (.long x :: st)) := by
  subst hp
  subst ex
  exact Go.by (fun t q => XS.lstore X.here hx rfl (hb hby hd) rfl hl q) k
theorem own_lstoreN (X : Stand p l e R s m args below meth c T locs cells slots) (hx : p.tables.exec = Jvm.exec) (hby : c.code = bs) {n : Fin 4} {x x' : Int64} (hd : decode bs pc = .ok (.lstore_n n, 1)) (ex : x = x') {l' : Array Slot} (hl : storeLocals Ls n.val (.long x') = some l') (pc' : Nat) (hp : pc + 1 = pc') (k : Go p e below G T (mkF m pc' l' st)) : Go p e below G T (mkF m pc Ls (.long x :: st)) := by
  subst hp
  subst ex
  exact Go.by (fun t q => XS.lstoreN X.here hx rfl (hb hby hd) rfl hl q) k
theorem own_aload (X : Stand p l e R s m args below meth c T locs cells slots) (hx : p.tables.exec = Jvm.exec) (hby : c.code = bs) {n : Nat} (v : Value) (hd : decode bs pc = .ok (.aload n, 2)) (hl : Ls[n]? = some (.val v)) (hv : v.isRef = true) (pc' : Nat) (hp : pc + 2 = pc') (k : Go p e below G T (mkF m pc' Ls (v :: st))) : Go p e below G T (mkF m pc Ls st) := by
  subst hp
  exact Go.by (fun t q => XS.aload X.here hx rfl (hb hby hd) hl hv q) k
theorem own_aloadN (X : Stand p l e R s m args below meth c T locs cells slots) (hx : p.tables.exec = Jvm.exec) (hby : c.code = bs) {n : Fin 4} (v : Value) (hd : decode bs pc = .ok (.aload_n n, 1)) (hl : Ls[n.val]? = some (.val v)) (hv : v.isRef = true) (pc' : Nat) (hp : pc + 1 = pc') (k : Go p e below G T (mkF m pc' Ls (v :: st))) : Go p e below G T (mkF m pc Ls st) := by
  subst hp
  exact Go.by (fun t q => XS.aloadN X.here hx rfl (hb hby hd) hl hv q) k
theorem own_astore (X : Stand p l e R s m args below meth c T locs cells slots) (hx : p.tables.exec = Jvm.exec) (hby : c.code = bs) {n : Nat} {x : Value} (hd : decode bs pc = .ok (.astore n, 2)) (hv : x.isRef = true) {l' : Array Slot} (hl : storeLocals Ls n x = some l') (pc' : Nat) (hp : pc + 2 = pc') (k : Go p e below G T (mkF m pc' l' st)) : Go p e below G T (mkF m pc Ls (x :: st)) := by
  subst hp
  exact Go.by (fun t q => XS.astore X.here hx rfl (hb hby hd) rfl hv hl q) k
theorem own_astoreN (X : Stand p l e R s m args below meth c T locs cells slots) (hx : p.tables.exec = Jvm.exec) (hby : c.code = bs) {n : Fin 4} {x : Value} (hd : decode bs pc = .ok (.astore_n n, 1)) (hv : x.isRef = true) {l' : Array Slot} (hl : storeLocals Ls n.val x = some l') (pc' : Nat) (hp : pc + 1 = pc') (k : Go p e below G T (mkF m pc' l' st)) : Go p e below G T (mkF m pc Ls (x :: st)) := by
  subst hp
  exact Go.by (fun t q => XS.astoreN X.here hx rfl (hb hby hd) rfl hv hl q) k
theorem own_iconst (X : Stand p l e R s m args below meth c T locs cells slots) (hx : p.tables.exec = Jvm.exec) (hby : c.code = bs) {i : Int} (v : Int32) (hd : decode bs pc = .ok (.iconst i, 1)) (hv : Int32.ofInt i = v) (pc' : Nat) (hp : pc + 1 = pc') (k : Go p e below G T (mkF m pc' Ls (.int v :: st))) : Go p e below G T (mkF m pc Ls st) := by
  subst hp
  subst hv
  exact Go.by (fun t q => XS.iconst X.here hx rfl (hb hby hd) q) k
theorem own_bipush (X : Stand p l e R s m args below meth c T locs cells slots) (hx : p.tables.exec = Jvm.exec) (hby : c.code = bs) {i : Int} (v : Int32) (hd : decode bs pc = .ok (.bipush i, 2)) (hv : (Int8.ofInt i).toInt32 = v) (pc' : Nat) (hp : pc + 2 = pc') (k : Go p e below G T (mkF m pc' Ls (.int v :: st))) : Go p e below G T (mkF m pc Ls st) := by
  subst hp
  subst hv
  exact Go.by (fun t q => XS.bipush X.here hx rfl (hb hby hd) q) k
theorem own_sipush (X : Stand p l e R s m args below meth c T locs cells slots) (hx : p.tables.exec = Jvm.exec) (hby : c.code = bs) {i : Int} (v : Int32) (hd : decode bs pc = .ok (.sipush i, 3)) (hv : (Int16.ofInt i).toInt32 = v) (pc' : Nat) (hp : pc + 3 = pc') (k : Go p e below G T (mkF m pc' Ls (.int v :: st))) : Go p e below G T (mkF m pc Ls st) := by
  subst hp
  subst hv
  exact Go.by (fun t q => XS.sipush X.here hx rfl (hb hby hd) q) k
theorem own_lconst (X : Stand p l e R s m args below meth c T locs cells slots) (hx : p.tables.exec = Jvm.exec) (hby : c.code = bs) {i : Fin 2} (v : Int64) (hd : decode bs pc = .ok (.lconst i, 1)) (hv : Int64.ofNat i = v) (pc' : Nat) (hp : pc + 1 = pc') (k : Go p e below G T (mkF m pc' Ls (.long v :: st))) : Go p e below G T (mkF m pc Ls st) := by
  subst hp
  subst hv
  exact Go.by (fun t q => XS.lconst X.here hx rfl (hb hby hd) q) k
theorem own_aconstNull (X : Stand p l e R s m args below meth c T locs cells slots) (hx : p.tables.exec = Jvm.exec) (hby : c.code = bs)  (hd : decode bs pc = .ok (.aconst_null, 1))  (pc' : Nat) (hp : pc + 1 = pc') (k : Go p e below G T (mkF m pc' Ls (.null :: st))) : Go p e below G T (mkF m pc Ls st) := by
  subst hp
  exact Go.by (fun t q => XS.aconstNull X.here hx rfl (hb hby hd) q) k
theorem own_iadd (X : Stand p l e R s m args below meth c T locs cells slots) (hx : p.tables.exec = Jvm.exec) (hby : c.code = bs) {x y : Int32} (hd : decode bs pc = .ok (.iadd, 1))  (pc' : Nat) (hp : pc + 1 = pc') (k : Go p e below G T (mkF m pc' Ls (.int (x + y) :: st))) : Go p e below G T (mkF m pc Ls (.int y :: .int x :: st)) := by
  subst hp
  exact Go.by (fun t q => XS.iadd X.here hx rfl (hb hby hd) rfl q) k
theorem own_isub (X : Stand p l e R s m args below meth c T locs cells slots) (hx : p.tables.exec = Jvm.exec) (hby : c.code = bs) {x y : Int32} (hd : decode bs pc = .ok (.isub, 1))  (pc' : Nat) (hp : pc + 1 = pc') (k : Go p e below G T (mkF m pc' Ls (.int (x - y) :: st))) : Go p e below G T (mkF m pc Ls (.int y :: .int x :: st)) := by
  subst hp
  exact Go.by (fun t q => XS.isub X.here hx rfl (hb hby hd) rfl q) k
theorem own_imul (X : Stand p l e R s m args below meth c T locs cells slots) (hx : p.tables.exec = Jvm.exec) (hby : c.code = bs) {x y : Int32} (hd : decode bs pc = .ok (.imul, 1))  (pc' : Nat) (hp : pc + 1 = pc') (k : Go p e below G T (mkF m pc' Ls (.int (x * y) :: st))) : Go p e below G T (mkF m pc Ls (.int y :: .int x :: st)) := by
  subst hp
  exact Go.by (fun t q => XS.imul X.here hx rfl (hb hby hd) rfl q) k
theorem own_iand (X : Stand p l e R s m args below meth c T locs cells slots) (hx : p.tables.exec = Jvm.exec) (hby : c.code = bs) {x y : Int32} (hd : decode bs pc = .ok (.iand, 1))  (pc' : Nat) (hp : pc + 1 = pc') (k : Go p e below G T (mkF m pc' Ls (.int (x &&& y) :: st))) : Go p e below G T (mkF m pc Ls (.int y :: .int x :: st)) := by
  subst hp
  exact Go.by (fun t q => XS.iand X.here hx rfl (hb hby hd) rfl q) k
theorem own_ior (X : Stand p l e R s m args below meth c T locs cells slots) (hx : p.tables.exec = Jvm.exec) (hby : c.code = bs) {x y : Int32} (hd : decode bs pc = .ok (.ior, 1))  (pc' : Nat) (hp : pc + 1 = pc') (k : Go p e below G T (mkF m pc' Ls (.int (x ||| y) :: st))) : Go p e below G T (mkF m pc Ls (.int y :: .int x :: st)) := by
  subst hp
  exact Go.by (fun t q => XS.ior X.here hx rfl (hb hby hd) rfl q) k
theorem own_ixor (X : Stand p l e R s m args below meth c T locs cells slots) (hx : p.tables.exec = Jvm.exec) (hby : c.code = bs) {x y : Int32} (hd : decode bs pc = .ok (.ixor, 1))  (pc' : Nat) (hp : pc + 1 = pc') (k : Go p e below G T (mkF m pc' Ls (.int (x ^^^ y) :: st))) : Go p e below G T (mkF m pc Ls (.int y :: .int x :: st)) := by
  subst hp
  exact Go.by (fun t q => XS.ixor X.here hx rfl (hb hby hd) rfl q) k
theorem own_ishl (X : Stand p l e R s m args below meth c T locs cells slots) (hx : p.tables.exec = Jvm.exec) (hby : c.code = bs) {x y : Int32} (hd : decode bs pc = .ok (.ishl, 1))  (pc' : Nat) (hp : pc + 1 = pc') (k : Go p e below G T (mkF m pc' Ls (.int (x <<< (y &&& 31)) :: st))) : Go p e below G T (mkF m pc Ls (.int y :: .int x :: st)) := by
  subst hp
  exact Go.by (fun t q => XS.ishl X.here hx rfl (hb hby hd) rfl q) k
theorem own_ishr (X : Stand p l e R s m args below meth c T locs cells slots) (hx : p.tables.exec = Jvm.exec) (hby : c.code = bs) {x y : Int32} (hd : decode bs pc = .ok (.ishr, 1))  (pc' : Nat) (hp : pc + 1 = pc') (k : Go p e below G T (mkF m pc' Ls (.int (x >>> (y &&& 31)) :: st))) : Go p e below G T (mkF m pc Ls (.int y :: .int x :: st)) := by
  subst hp
  exact Go.by (fun t q => XS.ishr X.here hx rfl (hb hby hd) rfl q) k
theorem own_iushr (X : Stand p l e R s m args below meth c T locs cells slots) (hx : p.tables.exec = Jvm.exec) (hby : c.code = bs) {x y : Int32} (hd : decode bs pc = .ok (.iushr, 1))  (pc' : Nat) (hp : pc + 1 = pc') (k : Go p e below G T (mkF m pc' Ls (.int ((x.toUInt32 >>> (y &&& 31).toUInt32).toInt32) :: st))) : Go p e below G T (mkF m pc Ls (.int y :: .int x :: st)) := by
  subst hp
  exact Go.by (fun t q => XS.iushr X.here hx rfl (hb hby hd) rfl q) k
theorem own_ladd (X : Stand p l e R s m args below meth c T locs cells slots) (hx : p.tables.exec = Jvm.exec) (hby : c.code = bs) {x y : Int64} (hd : decode bs pc = .ok (.ladd, 1))  (pc' : Nat) (hp : pc + 1 = pc') (k : Go p e below G T (mkF m pc' Ls (.long (x + y) :: st))) : Go p e below G T (mkF m pc Ls (.long y :: .long x :: st)) := by
  subst hp
  exact Go.by (fun t q => XS.ladd X.here hx rfl (hb hby hd) rfl q) k
theorem own_lsub (X : Stand p l e R s m args below meth c T locs cells slots) (hx : p.tables.exec = Jvm.exec) (hby : c.code = bs) {x y : Int64} (hd : decode bs pc = .ok (.lsub, 1))  (pc' : Nat) (hp : pc + 1 = pc') (k : Go p e below G T (mkF m pc' Ls (.long (x - y) :: st))) : Go p e below G T (mkF m pc Ls (.long y :: .long x :: st)) := by
  subst hp
  exact Go.by (fun t q => XS.lsub X.here hx rfl (hb hby hd) rfl q) k
theorem own_lmul (X : Stand p l e R s m args below meth c T locs cells slots) (hx : p.tables.exec = Jvm.exec) (hby : c.code = bs) {x y : Int64} (hd : decode bs pc = .ok (.lmul, 1))  (pc' : Nat) (hp : pc + 1 = pc') (k : Go p e below G T (mkF m pc' Ls (.long (x * y) :: st))) : Go p e below G T (mkF m pc Ls (.long y :: .long x :: st)) := by
  subst hp
  exact Go.by (fun t q => XS.lmul X.here hx rfl (hb hby hd) rfl q) k
theorem own_land (X : Stand p l e R s m args below meth c T locs cells slots) (hx : p.tables.exec = Jvm.exec) (hby : c.code = bs) {x y : Int64} (hd : decode bs pc = .ok (.land, 1))  (pc' : Nat) (hp : pc + 1 = pc') (k : Go p e below G T (mkF m pc' Ls (.long (x &&& y) :: st))) : Go p e below G T (mkF m pc Ls (.long y :: .long x :: st)) := by
  subst hp
  exact Go.by (fun t q => XS.land X.here hx rfl (hb hby hd) rfl q) k
theorem own_lor (X : Stand p l e R s m args below meth c T locs cells slots) (hx : p.tables.exec = Jvm.exec) (hby : c.code = bs) {x y : Int64} (hd : decode bs pc = .ok (.lor, 1))  (pc' : Nat) (hp : pc + 1 = pc') (k : Go p e below G T (mkF m pc' Ls (.long (x ||| y) :: st))) : Go p e below G T (mkF m pc Ls (.long y :: .long x :: st)) := by
  subst hp
  exact Go.by (fun t q => XS.lor X.here hx rfl (hb hby hd) rfl q) k
theorem own_lxor (X : Stand p l e R s m args below meth c T locs cells slots) (hx : p.tables.exec = Jvm.exec) (hby : c.code = bs) {x y : Int64} (hd : decode bs pc = .ok (.lxor, 1))  (pc' : Nat) (hp : pc + 1 = pc') (k : Go p e below G T (mkF m pc' Ls (.long (x ^^^ y) :: st))) : Go p e below G T (mkF m pc Ls (.long y :: .long x :: st)) := by
  subst hp
  exact Go.by (fun t q => XS.lxor X.here hx rfl (hb hby hd) rfl q) k
theorem own_lshl (X : Stand p l e R s m args below meth c T locs cells slots) (hx : p.tables.exec = Jvm.exec) (hby : c.code = bs) {x : Int64} {y : Int32} (hd : decode bs pc = .ok (.lshl, 1))  (pc' : Nat) (hp : pc + 1 = pc') (k : Go p e below G T (mkF m pc' Ls (.long (x <<< (y &&& 0x3f).toInt64) :: st))) : Go p e below G T (mkF m pc Ls (.int y :: .long x :: st)) := by
  subst hp
  exact Go.by (fun t q => XS.lshl X.here hx rfl (hb hby hd) rfl q) k
theorem own_lshr (X : Stand p l e R s m args below meth c T locs cells slots) (hx : p.tables.exec = Jvm.exec) (hby : c.code = bs) {x : Int64} {y : Int32} (hd : decode bs pc = .ok (.lshr, 1))  (pc' : Nat) (hp : pc + 1 = pc') (k : Go p e below G T (mkF m pc' Ls (.long (x >>> (y &&& 0x3f).toInt64) :: st))) : Go p e below G T (mkF m pc Ls (.int y :: .long x :: st)) := by
  subst hp
  exact Go.by (fun t q => XS.lshr X.here hx rfl (hb hby hd) rfl q) k
theorem own_lushr (X : Stand p l e R s m args below meth c T locs cells slots) (hx : p.tables.exec = Jvm.exec) (hby : c.code = bs) {x : Int64} {y : Int32} (hd : decode bs pc = .ok (.lushr, 1))  (pc' : Nat) (hp : pc + 1 = pc') (k : Go p e below G T (mkF m pc' Ls (.long ((x.toUInt64 >>> (y &&& 0x3f).toInt64.toUInt64).toInt64) :: st))) : Go p e below G T (mkF m pc Ls (.int y :: .long x :: st)) := by
  subst hp
  exact Go.by (fun t q => XS.lushr X.here hx rfl (hb hby hd) rfl q) k
theorem own_ineg (X : Stand p l e R s m args below meth c T locs cells slots) (hx : p.tables.exec = Jvm.exec) (hby : c.code = bs) {x : Int32} (hd : decode bs pc = .ok (.ineg, 1))  (pc' : Nat) (hp : pc + 1 = pc') (k : Go p e below G T (mkF m pc' Ls (.int (-x) :: st))) : Go p e below G T (mkF m pc Ls (.int x :: st)) := by
  subst hp
  exact Go.by (fun t q => XS.ineg X.here hx rfl (hb hby hd) rfl q) k
theorem own_lneg (X : Stand p l e R s m args below meth c T locs cells slots) (hx : p.tables.exec = Jvm.exec) (hby : c.code = bs) {x : Int64} (hd : decode bs pc = .ok (.lneg, 1))  (pc' : Nat) (hp : pc + 1 = pc') (k : Go p e below G T (mkF m pc' Ls (.long (-x) :: st))) : Go p e below G T (mkF m pc Ls (.long x :: st)) := by
  subst hp
  exact Go.by (fun t q => XS.lneg X.here hx rfl (hb hby hd) rfl q) k
theorem own_i2l (X : Stand p l e R s m args below meth c T locs cells slots) (hx : p.tables.exec = Jvm.exec) (hby : c.code = bs) {x : Int32} (hd : decode bs pc = .ok (.i2l, 1))  (pc' : Nat) (hp : pc + 1 = pc') (k : Go p e below G T (mkF m pc' Ls (.long (x.toInt64) :: st))) : Go p e below G T (mkF m pc Ls (.int x :: st)) := by
  subst hp
  exact Go.by (fun t q => XS.i2l X.here hx rfl (hb hby hd) rfl q) k
theorem own_l2i (X : Stand p l e R s m args below meth c T locs cells slots) (hx : p.tables.exec = Jvm.exec) (hby : c.code = bs) {x : Int64} (hd : decode bs pc = .ok (.l2i, 1))  (pc' : Nat) (hp : pc + 1 = pc') (k : Go p e below G T (mkF m pc' Ls (.int (x.toInt32) :: st))) : Go p e below G T (mkF m pc Ls (.long x :: st)) := by
  subst hp
  exact Go.by (fun t q => XS.l2i X.here hx rfl (hb hby hd) rfl q) k
theorem own_i2b (X : Stand p l e R s m args below meth c T locs cells slots) (hx : p.tables.exec = Jvm.exec) (hby : c.code = bs) {x : Int32} (hd : decode bs pc = .ok (.i2b, 1))  (pc' : Nat) (hp : pc + 1 = pc') (k : Go p e below G T (mkF m pc' Ls (.int (x.toInt8.toInt32) :: st))) : Go p e below G T (mkF m pc Ls (.int x :: st)) := by
  subst hp
  exact Go.by (fun t q => XS.i2b X.here hx rfl (hb hby hd) rfl q) k
theorem own_i2s (X : Stand p l e R s m args below meth c T locs cells slots) (hx : p.tables.exec = Jvm.exec) (hby : c.code = bs) {x : Int32} (hd : decode bs pc = .ok (.i2s, 1))  (pc' : Nat) (hp : pc + 1 = pc') (k : Go p e below G T (mkF m pc' Ls (.int (x.toInt16.toInt32) :: st))) : Go p e below G T (mkF m pc Ls (.int x :: st)) := by
  subst hp
  exact Go.by (fun t q => XS.i2s X.here hx rfl (hb hby hd) rfl q) k
theorem own_i2c (X : Stand p l e R s m args below meth c T locs cells slots) (hx : p.tables.exec = Jvm.exec) (hby : c.code = bs) {x : Int32} (hd : decode bs pc = .ok (.i2c, 1))  (pc' : Nat) (hp : pc + 1 = pc') (k : Go p e below G T (mkF m pc' Ls (.int (x.toUInt32.toUInt16.toUInt32.toInt32) :: st))) : Go p e below G T (mkF m pc Ls (.int x :: st)) := by
  subst hp
  exact Go.by (fun t q => XS.i2c X.here hx rfl (hb hby hd) rfl q) k
theorem own_idiv (X : Stand p l e R s m args below meth c T locs cells slots) (hx : p.tables.exec = Jvm.exec) (hby : c.code = bs) {x y : Int32} (hd : decode bs pc = .ok (.idiv, 1)) (hy : y ≠ 0) (pc' : Nat) (hp : pc + 1 = pc') (k : Go p e below G T (mkF m pc' Ls (.int (x / y) :: st))) : Go p e below G T (mkF m pc Ls (.int y :: .int x :: st)) := by
  subst hp
  exact Go.by (fun t q => XS.idiv X.here hx rfl (hb hby hd) rfl hy q) k
theorem own_ldiv (X : Stand p l e R s m args below meth c T locs cells slots) (hx : p.tables.exec = Jvm.exec) (hby : c.code = bs) {x y : Int64} (hd : decode bs pc = .ok (.ldiv, 1)) (hy : y ≠ 0) (pc' : Nat) (hp : pc + 1 = pc') (k : Go p e below G T (mkF m pc' Ls (.long (x / y) :: st))) : Go p e below G T (mkF m pc Ls (.long y :: .long x :: st)) := by
  subst hp
  exact Go.by (fun t q => XS.ldiv X.here hx rfl (hb hby hd) rfl hy q) k
theorem own_irem (X : Stand p l e R s m args below meth c T locs cells slots) (hx : p.tables.exec = Jvm.exec) (hby : c.code = bs) {x y : Int32} (hd : decode bs pc = .ok (.irem, 1)) (hy : y ≠ 0) (pc' : Nat) (hp : pc + 1 = pc') (k : Go p e below G T (mkF m pc' Ls (.int (x % y) :: st))) : Go p e below G T (mkF m pc Ls (.int y :: .int x :: st)) := by
  subst hp
  exact Go.by (fun t q => iremM X hx rfl (hb hby hd) rfl hy q) k
theorem own_lrem (X : Stand p l e R s m args below meth c T locs cells slots) (hx : p.tables.exec = Jvm.exec) (hby : c.code = bs) {x y : Int64} (hd : decode bs pc = .ok (.lrem, 1)) (hy : y ≠ 0) (pc' : Nat) (hp : pc + 1 = pc') (k : Go p e below G T (mkF m pc' Ls (.long (x % y) :: st))) : Go p e below G T (mkF m pc Ls (.long y :: .long x :: st)) := by
  subst hp
  rw [← lrem_mod] at k
  exact Go.by (fun t q => XS.lrem X.here hx rfl (hb hby hd) rfl hy q) k
theorem own_iinc (X : Stand p l e R s m args below meth c T locs cells slots) (hx : p.tables.exec = Jvm.exec) (hby : c.code = bs) {n : Nat} {cst : Int} {x x' : Int32} (hd : decode bs pc = .ok (.iinc n cst, 3)) (hl : Ls[n]? = some (.val (.int x))) (ex : x + Int32.ofInt cst = x') {l' : Array Slot} (hl' : storeLocals Ls n (.int x') = some l') (pc' : Nat) (hp : pc + 3 = pc') (k : Go p e below G T (mkF m pc' l' st)) : Go p e below G T (mkF m pc Ls st) := by
  subst hp
  subst ex
  exact Go.by (fun t q => XS.iinc X.here hx rfl (hb hby hd) hl hl' q) k
theorem own_dup (X : Stand p l e R s m args below meth c T locs cells slots) (hx : p.tables.exec = Jvm.exec) (hby : c.code = bs) {x : Value} (hd : decode bs pc = .ok (.dup, 1)) (hc : x.category = 1) (pc' : Nat) (hp : pc + 1 = pc') (k : Go p e below G T (mkF m pc' Ls (x :: x :: st))) : Go p e below G T (mkF m pc Ls (x :: st)) := by
  subst hp
  exact Go.by (fun t q => XS.dup X.here hx rfl (hb hby hd) rfl hc q) k
theorem own_pop (X : Stand p l e R s m args below meth c T locs cells slots) (hx : p.tables.exec = Jvm.exec) (hby : c.code = bs) {x : Value} (hd : decode bs pc = .ok (.pop, 1)) (hc : x.category = 1) (pc' : Nat) (hp : pc + 1 = pc') (k : Go p e below G T (mkF m pc' Ls st)) : Go p e below G T (mkF m pc Ls (x :: st)) := by
  subst hp
  exact Go.by (fun t q => XS.pop X.here hx rfl (hb hby hd) rfl hc q) k
theorem own_dupX1 (X : Stand p l e R s m args below meth c T locs cells slots) (hx : p.tables.exec = Jvm.exec) (hby : c.code = bs) {x y : Value} (hd : decode bs pc = .ok (.dup_x1, 1)) (hc : x.category = 1) (hc2 : y.category = 1) (pc' : Nat) (hp : pc + 1 = pc') (k : Go p e below G T (mkF m pc' Ls (x :: y :: x :: st))) : Go p e below G T (mkF m pc Ls (x :: y :: st)) := by
  subst hp
  exact Go.by (fun t q => XS.dupX1 X.here hx rfl (hb hby hd) rfl hc hc2 q) k
theorem own_dup2 (X : Stand p l e R s m args below meth c T locs cells slots) (hx : p.tables.exec = Jvm.exec) (hby : c.code = bs) {x y : Value} (hd : decode bs pc = .ok (.dup2, 1)) (hc : x.category = 1) (hc2 : y.category = 1) (pc' : Nat) (hp : pc + 1 = pc') (k : Go p e below G T (mkF m pc' Ls (x :: y :: x :: y :: st))) : Go p e below G T (mkF m pc Ls (x :: y :: st)) := by
  subst hp
  exact Go.by (fun t q => XT.dup2 X.here hx rfl (hb hby hd) rfl hc hc2 q) k
theorem own_dup2L (X : Stand p l e R s m args below meth c T locs cells slots) (hx : p.tables.exec = Jvm.exec) (hby : c.code = bs) {x : Int64} (hd : decode bs pc = .ok (.dup2, 1))  (pc' : Nat) (hp : pc + 1 = pc') (k : Go p e below G T (mkF m pc' Ls (.long x :: .long x :: st))) : Go p e below G T (mkF m pc Ls (.long x :: st)) := by
  subst hp
  exact Go.by (fun t q => XT.dup2L X.here hx rfl (hb hby hd) rfl q) k
theorem own_goto (X : Stand p l e R s m args below meth c T locs cells slots) (hx : p.tables.exec = Jvm.exec) (hby : c.code = bs) {o : Int} (hd : decode bs pc = .ok (.goto o, 3)) (pc' : Nat) (hp : 0 ≤ (pc : Int) + o ∧ ((pc : Int) + o).toNat = pc') (k : Go p e below G T (mkF m pc' Ls st)) : Go p e below G T (mkF m pc Ls st) :=
  Go.by (fun t q => XS.goto X.here hx rfl rfl (hb hby hd) hp.1 hp.2 q) k
theorem own_top {v v' : Value} (q : v = v') (k : Go p e below G T (mkF m pc Ls (v' :: st))) : Go p e below G T (mkF m pc Ls (v :: st)) := q ▸ k
theorem own_icmp_eq (X : Stand p l e R s m args below meth c T locs cells slots) (hx : p.tables.exec = Jvm.exec) (hby : c.code = bs) {o : Int} {x y : Int32} (hd : decode bs pc = .ok (.if_icmp .eq o, 3)) (pT pF : Nat) (hp : 0 ≤ (pc : Int) + o ∧ ((pc : Int) + o).toNat = pT) (hpF : pc + 3 = pF) (kT : x = y → Go p e below G T (mkF m pT Ls st)) (kF : ¬ x = y → Go p e below G T (mkF m pF Ls st)) : Go p e below G T (mkF m pc Ls (.int y :: .int x :: st)) := by
  subst hpF
  by_cases q0 : x = y
  · have q := q0
    exact Go.by (fun t r => XS.icmpYes X.here hx rfl rfl (hb hby hd) rfl (teq q).1 hp.1 hp.2 r) (kT q0)
  · have q : ¬ x = y := by first | exact q0 | exact Classical.not_not.mp q0
    exact Go.by (fun t r => XS.icmpNo X.here hx rfl (hb hby hd) rfl (feq q).1 r) (kF q)
theorem own_if_eq (X : Stand p l e R s m args below meth c T locs cells slots) (hx : p.tables.exec = Jvm.exec) (hby : c.code = bs) {o : Int} {x : Int32} (hd : decode bs pc = .ok (.ifCond .eq o, 3)) (pT pF : Nat) (hp : 0 ≤ (pc : Int) + o ∧ ((pc : Int) + o).toNat = pT) (hpF : pc + 3 = pF) (kT : x = (0 : Int32) → Go p e below G T (mkF m pT Ls st)) (kF : ¬ x = (0 : Int32) → Go p e below G T (mkF m pF Ls st)) : Go p e below G T (mkF m pc Ls (.int x :: st)) := by
  subst hpF
  by_cases q0 : x = (0 : Int32)
  · have q := q0
    exact Go.by (fun t r => XS.ifYes X.here hx rfl rfl (hb hby hd) rfl ((if0 _ _).trans (teq q).1) hp.1 hp.2 r) (kT q0)
  · have q : ¬ x = (0 : Int32) := by first | exact q0 | exact Classical.not_not.mp q0
    exact Go.by (fun t r => XS.ifNo X.here hx rfl (hb hby hd) rfl ((if0 _ _).trans (feq q).1) r) (kF q)
theorem own_lcmp_eq (X : Stand p l e R s m args below meth c T locs cells slots) (hx : p.tables.exec = Jvm.exec) (hby : c.code = bs) {o : Int} {x y : Int64} (hd : decode bs pc = .ok (.lcmp, 1)) (hd2 : decode bs (pc + 1) = .ok (.ifCond .eq o, 3)) (pT pF : Nat) (hp : 0 ≤ ((pc + 1 : Nat) : Int) + o ∧ (((pc + 1 : Nat) : Int) + o).toNat = pT) (hpF : pc + 4 = pF) (kT : x = y → Go p e below G T (mkF m pT Ls st)) (kF : ¬ x = y → Go p e below G T (mkF m pF Ls st)) : Go p e below G T (mkF m pc Ls (.long y :: .long x :: st)) := by
  refine Go.by (fun t r => XS.lcmp X.here hx rfl (hb hby hd) rfl r) (g' := mkF m (pc + 1) Ls (.int (lcmpW x y) :: st)) ?_
  refine own_if_eq X hx hby hd2 pT pF hp (by omega) (fun q => kT ?_) (fun q => kF ?_)
  · exact (lw_eq x y).mp q
  · exact fun r => q ((lw_eq x y).mpr r)
theorem own_icmp_ne (X : Stand p l e R s m args below meth c T locs cells slots) (hx : p.tables.exec = Jvm.exec) (hby : c.code = bs) {o : Int} {x y : Int32} (hd : decode bs pc = .ok (.if_icmp .ne o, 3)) (pT pF : Nat) (hp : 0 ≤ (pc : Int) + o ∧ ((pc : Int) + o).toNat = pT) (hpF : pc + 3 = pF) (kT : ¬ x = y → Go p e below G T (mkF m pT Ls st)) (kF : x = y → Go p e below G T (mkF m pF Ls st)) : Go p e below G T (mkF m pc Ls (.int y :: .int x :: st)) := by
  subst hpF
  by_cases q0 : ¬ x = y
  · have q := q0
    exact Go.by (fun t r => XS.icmpYes X.here hx rfl rfl (hb hby hd) rfl (feq q).2 hp.1 hp.2 r) (kT q0)
  · have q : x = y := by first | exact q0 | exact Classical.not_not.mp q0
    exact Go.by (fun t r => XS.icmpNo X.here hx rfl (hb hby hd) rfl (teq q).2 r) (kF q)
theorem own_if_ne (X : Stand p l e R s m args below meth c T locs cells slots) (hx : p.tables.exec = Jvm.exec) (hby : c.code = bs) {o : Int} {x : Int32} (hd : decode bs pc = .ok (.ifCond .ne o, 3)) (pT pF : Nat) (hp : 0 ≤ (pc : Int) + o ∧ ((pc : Int) + o).toNat = pT) (hpF : pc + 3 = pF) (kT : ¬ x = (0 : Int32) → Go p e below G T (mkF m pT Ls st)) (kF : x = (0 : Int32) → Go p e below G T (mkF m pF Ls st)) : Go p e below G T (mkF m pc Ls (.int x :: st)) := by
  subst hpF
  by_cases q0 : ¬ x = (0 : Int32)
  · have q := q0
    exact Go.by (fun t r => XS.ifYes X.here hx rfl rfl (hb hby hd) rfl ((if0 _ _).trans (feq q).2) hp.1 hp.2 r) (kT q0)
  · have q : x = (0 : Int32) := by first | exact q0 | exact Classical.not_not.mp q0
    exact Go.by (fun t r => XS.ifNo X.here hx rfl (hb hby hd) rfl ((if0 _ _).trans (teq q).2) r) (kF q)
theorem own_lcmp_ne (X : Stand p l e R s m args below meth c T locs cells slots) (hx : p.tables.exec = Jvm.exec) (hby : c.code = bs) {o : Int} {x y : Int64} (hd : decode bs pc = .ok (.lcmp, 1)) (hd2 : decode bs (pc + 1) = .ok (.ifCond .ne o, 3)) (pT pF : Nat) (hp : 0 ≤ ((pc + 1 : Nat) : Int) + o ∧ (((pc + 1 : Nat) : Int) + o).toNat = pT) (hpF : pc + 4 = pF) (kT : ¬ x = y → Go p e below G T (mkF m pT Ls st)) (kF : x = y → Go p e below G T (mkF m pF Ls st)) : Go p e below G T (mkF m pc Ls (.long y :: .long x :: st)) := by
  refine Go.by (fun t r => XS.lcmp X.here hx rfl (hb hby hd) rfl r) (g' := mkF m (pc + 1) Ls (.int (lcmpW x y) :: st)) ?_
  refine own_if_ne X hx hby hd2 pT pF hp (by omega) (fun q => kT ?_) (fun q => kF ?_)
  · exact fun r => q ((lw_eq x y).mpr r)
  · exact (lw_eq x y).mp q
theorem own_icmp_lt (X : Stand p l e R s m args below meth c T locs cells slots) (hx : p.tables.exec = Jvm.exec) (hby : c.code = bs) {o : Int} {x y : Int32} (hd : decode bs pc = .ok (.if_icmp .lt o, 3)) (pT pF : Nat) (hp : 0 ≤ (pc : Int) + o ∧ ((pc : Int) + o).toNat = pT) (hpF : pc + 3 = pF) (kT : x < y → Go p e below G T (mkF m pT Ls st)) (kF : ¬ x < y → Go p e below G T (mkF m pF Ls st)) : Go p e below G T (mkF m pc Ls (.int y :: .int x :: st)) := by
  subst hpF
  by_cases q0 : x < y
  · have q := q0
    exact Go.by (fun t r => XS.icmpYes X.here hx rfl rfl (hb hby hd) rfl (tlt q).1 hp.1 hp.2 r) (kT q0)
  · have q : ¬ x < y := by first | exact q0 | exact Classical.not_not.mp q0
    exact Go.by (fun t r => XS.icmpNo X.here hx rfl (hb hby hd) rfl (flt q).1 r) (kF q)
theorem own_if_lt (X : Stand p l e R s m args below meth c T locs cells slots) (hx : p.tables.exec = Jvm.exec) (hby : c.code = bs) {o : Int} {x : Int32} (hd : decode bs pc = .ok (.ifCond .lt o, 3)) (pT pF : Nat) (hp : 0 ≤ (pc : Int) + o ∧ ((pc : Int) + o).toNat = pT) (hpF : pc + 3 = pF) (kT : x < (0 : Int32) → Go p e below G T (mkF m pT Ls st)) (kF : ¬ x < (0 : Int32) → Go p e below G T (mkF m pF Ls st)) : Go p e below G T (mkF m pc Ls (.int x :: st)) := by
  subst hpF
  by_cases q0 : x < (0 : Int32)
  · have q := q0
    exact Go.by (fun t r => XS.ifYes X.here hx rfl rfl (hb hby hd) rfl ((if0 _ _).trans (tlt q).1) hp.1 hp.2 r) (kT q0)
  · have q : ¬ x < (0 : Int32) := by first | exact q0 | exact Classical.not_not.mp q0
    exact Go.by (fun t r => XS.ifNo X.here hx rfl (hb hby hd) rfl ((if0 _ _).trans (flt q).1) r) (kF q)
theorem own_lcmp_lt (X : Stand p l e R s m args below meth c T locs cells slots) (hx : p.tables.exec = Jvm.exec) (hby : c.code = bs) {o : Int} {x y : Int64} (hd : decode bs pc = .ok (.lcmp, 1)) (hd2 : decode bs (pc + 1) = .ok (.ifCond .lt o, 3)) (pT pF : Nat) (hp : 0 ≤ ((pc + 1 : Nat) : Int) + o ∧ (((pc + 1 : Nat) : Int) + o).toNat = pT) (hpF : pc + 4 = pF) (kT : x < y → Go p e below G T (mkF m pT Ls st)) (kF : ¬ x < y → Go p e below G T (mkF m pF Ls st)) : Go p e below G T (mkF m pc Ls (.long y :: .long x :: st)) := by
  refine Go.by (fun t r => XS.lcmp X.here hx rfl (hb hby hd) rfl r) (g' := mkF m (pc + 1) Ls (.int (lcmpW x y) :: st)) ?_
  refine own_if_lt X hx hby hd2 pT pF hp (by omega) (fun q => kT ?_) (fun q => kF ?_)
  · exact (lw_lt x y).mp q
  · exact fun r => q ((lw_lt x y).mpr r)
theorem own_icmp_ge (X : Stand p l e R s m args below meth c T locs cells slots) (hx : p.tables.exec = Jvm.exec) (hby : c.code = bs) {o : Int} {x y : Int32} (hd : decode bs pc = .ok (.if_icmp .ge o, 3)) (pT pF : Nat) (hp : 0 ≤ (pc : Int) + o ∧ ((pc : Int) + o).toNat = pT) (hpF : pc + 3 = pF) (kT : ¬ x < y → Go p e below G T (mkF m pT Ls st)) (kF : x < y → Go p e below G T (mkF m pF Ls st)) : Go p e below G T (mkF m pc Ls (.int y :: .int x :: st)) := by
  subst hpF
  by_cases q0 : ¬ x < y
  · have q := q0
    exact Go.by (fun t r => XS.icmpYes X.here hx rfl rfl (hb hby hd) rfl (flt q).2.1 hp.1 hp.2 r) (kT q0)
  · have q : x < y := by first | exact q0 | exact Classical.not_not.mp q0
    exact Go.by (fun t r => XS.icmpNo X.here hx rfl (hb hby hd) rfl (tlt q).2.1 r) (kF q)
theorem own_if_ge (X : Stand p l e R s m args below meth c T locs cells slots) (hx : p.tables.exec = Jvm.exec) (hby : c.code = bs) {o : Int} {x : Int32} (hd : decode bs pc = .ok (.ifCond .ge o, 3)) (pT pF : Nat) (hp : 0 ≤ (pc : Int) + o ∧ ((pc : Int) + o).toNat = pT) (hpF : pc + 3 = pF) (kT : ¬ x < (0 : Int32) → Go p e below G T (mkF m pT Ls st)) (kF : x < (0 : Int32) → Go p e below G T (mkF m pF Ls st)) : Go p e below G T (mkF m pc Ls (.int x :: st)) := by
  subst hpF
  by_cases q0 : ¬ x < (0 : Int32)
  · have q := q0
    exact Go.by (fun t r => XS.ifYes X.here hx rfl rfl (hb hby hd) rfl ((if0 _ _).trans (flt q).2.1) hp.1 hp.2 r) (kT q0)
  · have q : x < (0 : Int32) := by first | exact q0 | exact Classical.not_not.mp q0
    exact Go.by (fun t r => XS.ifNo X.here hx rfl (hb hby hd) rfl ((if0 _ _).trans (tlt q).2.1) r) (kF q)
theorem own_lcmp_ge (X : Stand p l e R s m args below meth c T locs cells slots) (hx : p.tables.exec = Jvm.exec) (hby : c.code = bs) {o : Int} {x y : Int64} (hd : decode bs pc = .ok (.lcmp, 1)) (hd2 : decode bs (pc + 1) = .ok (.ifCond .ge o, 3)) (pT pF : Nat) (hp : 0 ≤ ((pc + 1 : Nat) : Int) + o ∧ (((pc + 1 : Nat) : Int) + o).toNat = pT) (hpF : pc + 4 = pF) (kT : ¬ x < y → Go p e below G T (mkF m pT Ls st)) (kF : x < y → Go p e below G T (mkF m pF Ls st)) : Go p e below G T (mkF m pc Ls (.long y :: .long x :: st)) := by
  refine Go.by (fun t r => XS.lcmp X.here hx rfl (hb hby hd) rfl r) (g' := mkF m (pc + 1) Ls (.int (lcmpW x y) :: st)) ?_
  refine own_if_ge X hx hby hd2 pT pF hp (by omega) (fun q => kT ?_) (fun q => kF ?_)
  · exact fun r => q ((lw_lt x y).mpr r)
  · exact (lw_lt x y).mp q
theorem own_icmp_gt (X : Stand p l e R s m args below meth c T locs cells slots) (hx : p.tables.exec = Jvm.exec) (hby : c.code = bs) {o : Int} {x y : Int32} (hd : decode bs pc = .ok (.if_icmp .gt o, 3)) (pT pF : Nat) (hp : 0 ≤ (pc : Int) + o ∧ ((pc : Int) + o).toNat = pT) (hpF : pc + 3 = pF) (kT : y < x → Go p e below G T (mkF m pT Ls st)) (kF : ¬ y < x → Go p e below G T (mkF m pF Ls st)) : Go p e below G T (mkF m pc Ls (.int y :: .int x :: st)) := by
  subst hpF
  by_cases q0 : y < x
  · have q := q0
    exact Go.by (fun t r => XS.icmpYes X.here hx rfl rfl (hb hby hd) rfl (tlt q).2.2.1 hp.1 hp.2 r) (kT q0)
  · have q : ¬ y < x := by first | exact q0 | exact Classical.not_not.mp q0
    exact Go.by (fun t r => XS.icmpNo X.here hx rfl (hb hby hd) rfl (flt q).2.2.1 r) (kF q)
theorem own_if_gt (X : Stand p l e R s m args below meth c T locs cells slots) (hx : p.tables.exec = Jvm.exec) (hby : c.code = bs) {o : Int} {x : Int32} (hd : decode bs pc = .ok (.ifCond .gt o, 3)) (pT pF : Nat) (hp : 0 ≤ (pc : Int) + o ∧ ((pc : Int) + o).toNat = pT) (hpF : pc + 3 = pF) (kT : (0 : Int32) < x → Go p e below G T (mkF m pT Ls st)) (kF : ¬ (0 : Int32) < x → Go p e below G T (mkF m pF Ls st)) : Go p e below G T (mkF m pc Ls (.int x :: st)) := by
  subst hpF
  by_cases q0 : (0 : Int32) < x
  · have q := q0
    exact Go.by (fun t r => XS.ifYes X.here hx rfl rfl (hb hby hd) rfl ((if0 _ _).trans (tlt q).2.2.1) hp.1 hp.2 r) (kT q0)
  · have q : ¬ (0 : Int32) < x := by first | exact q0 | exact Classical.not_not.mp q0
    exact Go.by (fun t r => XS.ifNo X.here hx rfl (hb hby hd) rfl ((if0 _ _).trans (flt q).2.2.1) r) (kF q)
theorem own_lcmp_gt (X : Stand p l e R s m args below meth c T locs cells slots) (hx : p.tables.exec = Jvm.exec) (hby : c.code = bs) {o : Int} {x y : Int64} (hd : decode bs pc = .ok (.lcmp, 1)) (hd2 : decode bs (pc + 1) = .ok (.ifCond .gt o, 3)) (pT pF : Nat) (hp : 0 ≤ ((pc + 1 : Nat) : Int) + o ∧ (((pc + 1 : Nat) : Int) + o).toNat = pT) (hpF : pc + 4 = pF) (kT : y < x → Go p e below G T (mkF m pT Ls st)) (kF : ¬ y < x → Go p e below G T (mkF m pF Ls st)) : Go p e below G T (mkF m pc Ls (.long y :: .long x :: st)) := by
  refine Go.by (fun t r => XS.lcmp X.here hx rfl (hb hby hd) rfl r) (g' := mkF m (pc + 1) Ls (.int (lcmpW x y) :: st)) ?_
  refine own_if_gt X hx hby hd2 pT pF hp (by omega) (fun q => kT ?_) (fun q => kF ?_)
  · exact (lw_gt x y).mp q
  · exact fun r => q ((lw_gt x y).mpr r)
theorem own_icmp_le (X : Stand p l e R s m args below meth c T locs cells slots) (hx : p.tables.exec = Jvm.exec) (hby : c.code = bs) {o : Int} {x y : Int32} (hd : decode bs pc = .ok (.if_icmp .le o, 3)) (pT pF : Nat) (hp : 0 ≤ (pc : Int) + o ∧ ((pc : Int) + o).toNat = pT) (hpF : pc + 3 = pF) (kT : ¬ y < x → Go p e below G T (mkF m pT Ls st)) (kF : y < x → Go p e below G T (mkF m pF Ls st)) : Go p e below G T (mkF m pc Ls (.int y :: .int x :: st)) := by
  subst hpF
  by_cases q0 : ¬ y < x
  · have q := q0
    exact Go.by (fun t r => XS.icmpYes X.here hx rfl rfl (hb hby hd) rfl (flt q).2.2.2 hp.1 hp.2 r) (kT q0)
  · have q : y < x := by first | exact q0 | exact Classical.not_not.mp q0
    exact Go.by (fun t r => XS.icmpNo X.here hx rfl (hb hby hd) rfl (tlt q).2.2.2 r) (kF q)
theorem own_if_le (X : Stand p l e R s m args below meth c T locs cells slots) (hx : p.tables.exec = Jvm.exec) (hby : c.code = bs) {o : Int} {x : Int32} (hd : decode bs pc = .ok (.ifCond .le o, 3)) (pT pF : Nat) (hp : 0 ≤ (pc : Int) + o ∧ ((pc : Int) + o).toNat = pT) (hpF : pc + 3 = pF) (kT : ¬ (0 : Int32) < x → Go p e below G T (mkF m pT Ls st)) (kF : (0 : Int32) < x → Go p e below G T (mkF m pF Ls st)) : Go p e below G T (mkF m pc Ls (.int x :: st)) := by
  subst hpF
  by_cases q0 : ¬ (0 : Int32) < x
  · have q := q0
    exact Go.by (fun t r => XS.ifYes X.here hx rfl rfl (hb hby hd) rfl ((if0 _ _).trans (flt q).2.2.2) hp.1 hp.2 r) (kT q0)
  · have q : (0 : Int32) < x := by first | exact q0 | exact Classical.not_not.mp q0
    exact Go.by (fun t r => XS.ifNo X.here hx rfl (hb hby hd) rfl ((if0 _ _).trans (tlt q).2.2.2) r) (kF q)
theorem own_lcmp_le (X : Stand p l e R s m args below meth c T locs cells slots) (hx : p.tables.exec = Jvm.exec) (hby : c.code = bs) {o : Int} {x y : Int64} (hd : decode bs pc = .ok (.lcmp, 1)) (hd2 : decode bs (pc + 1) = .ok (.ifCond .le o, 3)) (pT pF : Nat) (hp : 0 ≤ ((pc + 1 : Nat) : Int) + o ∧ (((pc + 1 : Nat) : Int) + o).toNat = pT) (hpF : pc + 4 = pF) (kT : ¬ y < x → Go p e below G T (mkF m pT Ls st)) (kF : y < x → Go p e below G T (mkF m pF Ls st)) : Go p e below G T (mkF m pc Ls (.long y :: .long x :: st)) := by
  refine Go.by (fun t r => XS.lcmp X.here hx rfl (hb hby hd) rfl r) (g' := mkF m (pc + 1) Ls (.int (lcmpW x y) :: st)) ?_
  refine own_if_le X hx hby hd2 pT pF hp (by omega) (fun q => kT ?_) (fun q => kF ?_)
  · exact fun r => q ((lw_gt x y).mpr r)
  · exact (lw_gt x y).mp q
theorem own_ifnullY (X : Stand p l e R s m args below meth c T locs cells slots) (hx : p.tables.exec = Jvm.exec) (hby : c.code = bs) {o : Int}  (hd : decode bs pc = .ok (.ifnull o, 3)) (pc' : Nat) (hp : 0 ≤ (pc : Int) + o ∧ ((pc : Int) + o).toNat = pc') (k : Go p e below G T (mkF m pc' Ls st)) : Go p e below G T (mkF m pc Ls (.null :: st)) :=
  Go.by (fun t q => XS.ifnullYes X.here hx rfl rfl (hb hby hd) rfl hp.1 hp.2 q) k
theorem own_ifnullN (X : Stand p l e R s m args below meth c T locs cells slots) (hx : p.tables.exec = Jvm.exec) (hby : c.code = bs) {o : Int} {b : Addr} (hd : decode bs pc = .ok (.ifnull o, 3)) (pc' : Nat) (hp : pc + 3 = pc') (k : Go p e below G T (mkF m pc' Ls st)) : Go p e below G T (mkF m pc Ls (.ref b :: st)) := by
  subst hp
  exact Go.by (fun t q => XS.ifnullNo X.here hx rfl (hb hby hd) rfl q) k
theorem own_ifnonnullY (X : Stand p l e R s m args below meth c T locs cells slots) (hx : p.tables.exec = Jvm.exec) (hby : c.code = bs) {o : Int} {b : Addr} (hd : decode bs pc = .ok (.ifnonnull o, 3)) (pc' : Nat) (hp : 0 ≤ (pc : Int) + o ∧ ((pc : Int) + o).toNat = pc') (k : Go p e below G T (mkF m pc' Ls st)) : Go p e below G T (mkF m pc Ls (.ref b :: st)) :=
  Go.by (fun t q => XS.ifnonnullYes X.here hx rfl rfl (hb hby hd) rfl hp.1 hp.2 q) k
theorem own_ifnonnullN (X : Stand p l e R s m args below meth c T locs cells slots) (hx : p.tables.exec = Jvm.exec) (hby : c.code = bs) {o : Int}  (hd : decode bs pc = .ok (.ifnonnull o, 3)) (pc' : Nat) (hp : pc + 3 = pc') (k : Go p e below G T (mkF m pc' Ls st)) : Go p e below G T (mkF m pc Ls (.null :: st)) := by
  subst hp
  exact Go.by (fun t q => XS.ifnonnullNo X.here hx rfl (hb hby hd) rfl q) k
theorem own_ldc (X : Stand p l e R s m args below meth c T locs cells slots) (hx : p.tables.exec = Jvm.exec) (hby : c.code = bs) (hZ : Z.Warmed39 s.vm) {own : String} {idx : Nat} (v : Int32) (hown : s.vm.findClass own = some m.cls) (w : (Jvm.Cond.constant own idx v).before a0 Z = true) (hd : decode bs pc = .ok (.ldc idx, 2)) (pc' : Nat) (hp : pc + 2 = pc') (k : Go p e below G T (mkF m pc' Ls (.int v :: st))) : Go p e below G T (mkF m pc Ls st) := by
  subst hp
  exact Go.by (fun t q => X.ldcInt hx hown (mvT hZ w) (g := mkF m pc Ls st) rfl (hb hby hd) t q) k
theorem own_ldc2 (X : Stand p l e R s m args below meth c T locs cells slots) (hx : p.tables.exec = Jvm.exec) (hby : c.code = bs) (hZ : Z.Warmed39 s.vm) {own : String} {idx : Nat} (v : Int64) (hown : s.vm.findClass own = some m.cls) (w : (Jvm.Cond.constantLong own idx v).before a0 Z = true) (hd : decode bs pc = .ok (.ldc2_w idx, 3)) (pc' : Nat) (hp : pc + 3 = pc') (k : Go p e below G T (mkF m pc' Ls (.long v :: st))) : Go p e below G T (mkF m pc Ls st) := by
  subst hp
  exact Go.by (fun t q => X.ldc2Long hx hown (mvT hZ w) (g := mkF m pc Ls st) rfl (hb hby hd) t q) k
theorem own_callS (X : Stand p l e R s m args below meth c T locs cells slots) (hx : p.tables.exec = Jvm.exec) (hby : c.code = bs) (hZ : Z.Warmed39 s.vm) {own : String} {idx : Nat} {y : MethodName} {yb : ByteArray} {yml : Nat} {yrt : Option FieldType} {rm : Room} {as : Array Value} {Qc : Option Value → Heap → List Loc → Prop} (argsL : List Value) (has : argsL.toArray = as) (hown : s.vm.findClass own = some m.cls) (w1 : (Jvm.Cond.methodLink own idx y).before a0 Z = true) (w2 : (Jvm.Cond.static y).before a0 Z = true) (w3 : (Jvm.Cond.initialized y.cls).before a0 Z = true) (w4 : (Jvm.Cond.code y yb yml yrt).before a0 Z = true) (hy : y.cls ≠ "java/lang/invoke/MethodHandle" ∧ y.cls ≠ "java/lang/invoke/VarHandle") (hd : decode bs pc = .ok (.invokestatic idx, 3)) (hM : Met1 l Z y yb yml yrt rm as h Qc) (eT : T.heap = h) {ps : List FieldType} {pr : Option FieldType} (hpd : parseMethodDescriptor y.desc = some ⟨ps, pr⟩) (hlen : argsL.length = ps.length) (hml : Ls.size = c.maxLocals) (hf : rm.frames + 1 ≤ R.frames) (W : Nat) (hW : (st.map fun v => v.category).sum = W) (hl : W + (yml + 11) + rm.locals ≤ R.locals) (hcl : cells + rm.cells ≤ R.cells) (hsl : slots + rm.slots ≤ R.slots) (pc' : Nat) (hp : pc + 3 = pc') (k : ∀ (T' : State) (L : List Loc) (v : Option Value), Stand p l e R s m args below meth c T' (locs ++ L) (cells + rm.cells) (slots + rm.slots) → Qc v T'.heap L → Go p e below G T' (mkF m pc' Ls (v.toList ++ st))) : Go p e below G T (mkF m pc Ls (argsL.reverse ++ st)) := by
  subst has
  subst hp
  obtain ⟨v, vm₁, ⟨T1, L1, k1, n1⟩, -, X1, ⟨Lc, hQ, l1, y1, z1⟩, st1⟩ := Jvm.LawKit.callS X hx (y := y) hown (mvT hZ w1) (mvT hZ w2) (mvT hZ w3) (mvT hZ w4) hy (backOf (W := W) (hM []) hZ w4 w3 hf hl) (g := mkF m pc Ls (argsL.reverse ++ st)) rfl hml (argsL := argsL) (rest := st) (lenOf hpd hlen) rfl (by show 2 * 0 + _ ≤ _; omega) (hb hby hd) (fun _ _ => ⟨rfl, eT, hcl, hsl⟩)
  dsimp only [Pt.U, Pt.locs, Pt.cells, Pt.slots] at X1 l1 y1 z1 st1 hQ
  subst l1 y1 z1
  exact Go.by (fun t q => st1 t q) (k T1 Lc v X1 hQ)
theorem own_callC (X : Stand p l e R s m args below meth c T locs cells slots) (hx : p.tables.exec = Jvm.exec) (hby : c.code = bs) (hZ : Z.Warmed39 s.vm) {own : String} {idx : Nat} {y : MethodName} {yb : ByteArray} {yml : Nat} {rm : Room} {as : Array Value} {Qc : Option Value → Heap → List Loc → Prop} {a : Addr} (argsL : List Value) (has : (.ref a :: argsL).toArray = as) (hy1 : y.name = "<init>") (hown : s.vm.findClass own = some m.cls) (w1 : (Jvm.Cond.methodLink own idx y).before a0 Z = true) (w2 : (Jvm.Cond.instanceMethod y).before a0 Z = true) (w3 : (Jvm.Cond.initialized y.cls).before a0 Z = true) (w4 : (Jvm.Cond.code y yb yml none).before a0 Z = true) (hy : y.cls ≠ "java/lang/invoke/MethodHandle" ∧ y.cls ≠ "java/lang/invoke/VarHandle") (hd : decode bs pc = .ok (.invokespecial idx, 3)) (hM : Met1 l Z y yb yml none rm as h Qc) (eT : T.heap = h) {ps : List FieldType} {pr : Option FieldType} (hpd : parseMethodDescriptor y.desc = some ⟨ps, pr⟩) (hlen : argsL.length = ps.length) (hml : Ls.size = c.maxLocals) (hf : rm.frames + 1 ≤ R.frames) (W : Nat) (hW : (st.map fun v => v.category).sum = W) (hl : W + (yml + 11) + rm.locals ≤ R.locals) (hcl : cells + rm.cells ≤ R.cells) (hsl : slots + rm.slots ≤ R.slots) (pc' : Nat) (hp : pc + 3 = pc') (k : ∀ (T' : State) (L : List Loc) (v : Option Value), Stand p l e R s m args below meth c T' (locs ++ L) (cells + rm.cells) (slots + rm.slots) → Qc v T'.heap L → Go p e below G T' (mkF m pc' Ls (v.toList ++ st))) : Go p e below G T (mkF m pc Ls (argsL.reverse ++ .ref a :: st)) := by
  subst has
  subst hp
  obtain ⟨v, vm₁, ⟨T1, L1, k1, n1⟩, -, X1, ⟨Lc, hQ, l1, y1, z1⟩, st1⟩ := X.specialBack hx (y := y) hy1 hown (mvT hZ w1) (mvT hZ w2) (mvT hZ w4) hy (backOf (W := W) (hM []) hZ w4 w3 hf hl) (g := mkF m pc Ls (argsL.reverse ++ .ref a :: st)) rfl hml (Steps.refl _) (a := a) (argsL := argsL) (rest := st) (lenOf hpd hlen) rfl (by show 2 * 0 + _ ≤ _; omega) (hb hby hd) (fun _ _ => ⟨rfl, eT, hcl, hsl⟩)
  dsimp only [Pt.U, Pt.locs, Pt.cells, Pt.slots] at X1 l1 y1 z1 st1 hQ
  subst l1 y1 z1
  exact Go.by (fun t q => st1.trans q) (k T1 Lc v X1 hQ)
theorem own_callV (X : Stand p l e R s m args below meth c T locs cells slots) (hx : p.tables.exec = Jvm.exec) (hby : c.code = bs) (hZ : Z.Warmed39 s.vm) {own : String} {idx : Nat} {y : MethodName} {yb : ByteArray} {yml : Nat} {yrt : Option FieldType} {rm : Room} {as : Array Value} {Qc : Option Value → Heap → List Loc → Prop} {a : Addr} {C : String} (argsL : List Value) (has : (.ref a :: argsL).toArray = as) (hown : s.vm.findClass own = some m.cls) (w1 : (Jvm.Cond.methodLink own idx y).before a0 Z = true) (w5 : (Jvm.Cond.declares y).before a0 Z = true) (w6 : (Jvm.Cond.selects C y y).before a0 Z = true) (w2 : (Jvm.Cond.instanceMethod y).before a0 Z = true) (w3 : (Jvm.Cond.initialized y.cls).before a0 Z = true) (w4 : (Jvm.Cond.code y yb yml yrt).before a0 Z = true) (E : Exa Z h a C) (hy : y.cls ≠ "java/lang/invoke/MethodHandle" ∧ y.cls ≠ "java/lang/invoke/VarHandle") (hd : decode bs pc = .ok (.invokevirtual idx, 3)) (hM : Met1 l Z y yb yml yrt rm as h Qc) (eT : T.heap = h) {ps : List FieldType} {pr : Option FieldType} (hpd : parseMethodDescriptor y.desc = some ⟨ps, pr⟩) (hlen : argsL.length = ps.length) (hml : Ls.size = c.maxLocals) (hf : rm.frames + 1 ≤ R.frames) (W : Nat) (hW : (st.map fun v => v.category).sum = W) (hl : W + (yml + 11) + rm.locals ≤ R.locals) (hcl : cells + rm.cells ≤ R.cells) (hsl : slots + rm.slots ≤ R.slots) (pc' : Nat) (hp : pc + 3 = pc') (k : ∀ (T' : State) (L : List Loc) (v : Option Value), Stand p l e R s m args below meth c T' (locs ++ L) (cells + rm.cells) (slots + rm.slots) → Qc v T'.heap L → Go p e below G T' (mkF m pc' Ls (v.toList ++ st))) : Go p e below G T (mkF m pc Ls (argsL.reverse ++ .ref a :: st)) := by
  subst has
  obtain ⟨cq, kq, qa, qb, qc⟩ := isOf hZ eT E
  subst hp
  obtain ⟨v, vm₁, ⟨T1, L1, k1, n1⟩, -, X1, ⟨Lc, hQ, l1, y1, z1⟩, st1⟩ := X.virtualBack hx (y := y) (z := y) hown (mvT hZ w1) (mvT hZ w5) (notFace_of_selects (args := #[]) (mvT hZ w6)) (mvT hZ w6) (mvT hZ w2) hy (backOf (W := W) (hM []) hZ w4 w3 hf hl) qa qc (g := mkF m pc Ls (argsL.reverse ++ .ref a :: st)) rfl hml (Steps.refl _) (argsL := argsL) (rest := st) (lenOf hpd hlen) rfl (by show 2 * 0 + _ ≤ _; omega) (hb hby hd) (fun _ _ => ⟨rfl, eT, hcl, hsl⟩)
  dsimp only [Pt.U, Pt.locs, Pt.cells, Pt.slots] at X1 l1 y1 z1 st1 hQ
  subst l1 y1 z1
  exact Go.by (fun t q => st1.trans q) (k T1 Lc v X1 hQ)
theorem own_getF (X : Stand p l e R s m args below meth c T locs cells slots) (hx : p.tables.exec = Jvm.exec) (hby : c.code = bs) (hZ : Z.Warmed39 s.vm) {own R0 O n d host : String} {idx : Nat} {a : Addr} {v : Value} (hown : s.vm.findClass own = some m.cls) (w : (Jvm.Cond.fieldLink own idx R0 n d).before a0 Z = true ∨ (Jvm.Cond.fieldLinkNest own idx R0 n d host).before a0 Z = true) (via : Via Z R0 O n d) (eT : T.heap = h) (F : Fld Z h a O n d v) (hd : decode bs pc = .ok (.getfield idx, 3)) (pc' : Nat) (hp : pc + 3 = pc') (k : ∀ T', Stand p l e R s m args below meth c T' locs cells slots → T'.heap = h → Go p e below G T' (mkF m pc' Ls (v :: st))) : Go p e below G T (mkF m pc Ls (.ref a :: st)) := by
  subst hp
  obtain ⟨T1, X1, e1, st1⟩ := getF X hx hZ hown w via eT F (g := mkF m pc Ls (.ref a :: st)) rfl rfl (hb hby hd)
  exact Go.by (fun t q => st1 t q) (k T1 X1 e1)
theorem own_putF (X : Stand p l e R s m args below meth c T locs cells slots) (hx : p.tables.exec = Jvm.exec) (hby : c.code = bs) (hZ : Z.Warmed39 s.vm) {own R0 O n d host C : String} {idx kk : Nat} {a : Addr} {v old : Value} {ty : FieldType} (hown : s.vm.findClass own = some m.cls) (w : (Jvm.Cond.fieldLink own idx R0 n d).before a0 Z = true ∨ (Jvm.Cond.fieldLinkNest own idx R0 n d host).before a0 Z = true) (via : Via Z R0 O n d) (eT : T.heap = h) (F : Fld Z h a O n d old) (E : Exa Z h a C) (lw : (Jvm.Cond.lays C O n d).before a0 Z = true ∨ ((Jvm.Cond.laysFinal C O n d).before a0 Z = true ∧ own = O ∧ meth.name = "<init>")) (wi : (Jvm.Cond.instantiable C kk).before a0 Z = true) (hty : parseFieldDescriptor d = some ty) (hn : narrow ty v = v) (hf : fits ty v = true) (hd : decode bs pc = .ok (.putfield idx, 3)) (pc' : Nat) (hp : pc + 3 = pc') (k : ∀ T' h', Stand p l e R s m args below meth c T' (locs ++ [⟨a, Jvm.RoadKit.slotOf Z O n d⟩]) cells slots → T'.heap = h' → Wr h h' a (Jvm.RoadKit.slotOf Z O n d) v → Go p e below G T' (mkF m pc' Ls st)) : Go p e below G T (mkF m pc Ls (v :: .ref a :: st)) := by
  subst hp
  obtain ⟨T1, h1, X1, e1, W1, st1⟩ := putF X hx hZ hown w via eT F E lw wi hty hn hf (g := mkF m pc Ls (v :: .ref a :: st)) rfl rfl (hb hby hd)
  exact Go.by (fun t q => st1 t q) (k T1 h1 X1 e1 W1)
theorem own_new (X : Stand p l e R s m args below meth c T locs cells slots) (hx : p.tables.exec = Jvm.exec) (hby : c.code = bs) (hZ : Z.Warmed39 s.vm) {own C : String} {idx n : Nat} (hown : s.vm.findClass own = some m.cls) (w : (Jvm.Cond.classLink own idx C).before a0 Z = true) (wi : (Jvm.Cond.instantiable C n).before a0 Z = true) (wz : (Jvm.Cond.initialized C).before a0 Z = true) (eT : T.heap = h) (hd : decode bs pc = .ok (.new idx, 3)) (hcl : cells + 1 ≤ R.cells) (hsl : slots + n ≤ R.slots) (pc' : Nat) (hp : pc + 3 = pc') (k : ∀ T' h' (b : Addr), b = h.size → Stand p l e R s m args below meth c T' locs (cells + 1) (slots + n) → T'.heap = h' → Ext h h' → Exa Z h' b C → (∀ {O nm d : String} {ty : FieldType}, Laid Z a0 C O nm d → parseFieldDescriptor d = some ty → Fld Z h' b O nm d (defaultValue ty)) → Go p e below G T' (mkF m pc' Ls (.ref b :: st))) : Go p e below G T (mkF m pc Ls st) := by
  subst hp
  obtain ⟨T1, h1, X1, e1, E1, A1, D1, -, st1⟩ := newO X hx hZ hown w wi wz eT (g := mkF m pc Ls st) rfl (hb hby hd) hcl hsl
  exact Go.by (fun t q => st1 t q) (k T1 h1 _ rfl X1 e1 E1 A1 D1)
theorem own_initO (X : Stand p l e R s m args below meth c T locs cells slots) (hx : p.tables.exec = Jvm.exec) (hby : c.code = bs) (hZ : Z.Warmed39 s.vm) {own : String} {idx : Nat} {a : Addr} (hown : s.vm.findClass own = some m.cls) (w1 : (Jvm.Cond.methodLink own idx Lib.objectInit).before a0 Z = true) (w2 : (Jvm.Cond.instanceMethod Lib.objectInit).before a0 Z = true) (w3 : (Jvm.Cond.code Lib.objectInit ⟨#[0xb1]⟩ 1 none).before a0 Z = true) (eT : T.heap = h) (hml : Ls.size = c.maxLocals) (hd : decode bs pc = .ok (.invokespecial idx, 3)) (hf : 1 ≤ R.frames) (W : Nat) (hW : (st.map fun v => v.category).sum = W) (hl : W + 12 ≤ R.locals) (pc' : Nat) (hp : pc + 3 = pc') (k : ∀ T', Stand p l e R s m args below meth c T' locs cells slots → T'.heap = h → Go p e below G T' (mkF m pc' Ls st)) : Go p e below G T (mkF m pc Ls (.ref a :: st)) := by
  subst hp
  obtain ⟨T1, X1, e1, st1⟩ := initO X hx hZ hown w1 w2 w3 eT (g := mkF m pc Ls (.ref a :: st)) rfl hml rfl (hb hby hd) hf (W := W) (by show 2 * 0 + _ ≤ _; omega) hl
  exact Go.by (fun t q => st1 t q) (k T1 X1 e1)
theorem own_putFN (X : Stand p l e R s m args below meth c T locs cells slots) (hx : p.tables.exec = Jvm.exec) (hby : c.code = bs) (hZ : Z.Warmed39 s.vm) {own R0 O n d C : String} {idx kk : Nat} {a : Addr} {v v' old : Value} {ty : FieldType} (hown : s.vm.findClass own = some m.cls) (w : (Jvm.Cond.fieldLink own idx R0 n d).before a0 Z = true) (via : Via Z R0 O n d) (eT : T.heap = h) (F : Fld Z h a O n d old) (E : Exa Z h a C) (lw : (Jvm.Cond.lays C O n d).before a0 Z = true ∨ ((Jvm.Cond.laysFinal C O n d).before a0 Z = true ∧ own = O ∧ meth.name = "<init>")) (wi : (Jvm.Cond.instantiable C kk).before a0 Z = true) (hty : parseFieldDescriptor d = some ty) (hn : narrow ty v = v') (hf : fits ty v' = true) (hd : decode bs pc = .ok (.putfield idx, 3)) (pc' : Nat) (hp : pc + 3 = pc') (k : ∀ T' h', Stand p l e R s m args below meth c T' (locs ++ [⟨a, Jvm.RoadKit.slotOf Z O n d⟩]) cells slots → T'.heap = h' → Wr h h' a (Jvm.RoadKit.slotOf Z O n d) v' → Go p e below G T' (mkF m pc' Ls st)) : Go p e below G T (mkF m pc Ls (v :: .ref a :: st)) := by
  subst hp
  obtain ⟨T1, h1, X1, e1, W1, st1⟩ := putFN X hx hZ hown w via eT F E lw wi hty hn hf (g := mkF m pc Ls (v :: .ref a :: st)) rfl rfl (hb hby hd)
  exact Go.by (fun t q => st1 t q) (k T1 h1 X1 e1 W1)
theorem own_callP (X : Stand p l e R s m args below meth c T locs cells slots) (hx : p.tables.exec = Jvm.exec) (hby : c.code = bs) (hZ : Z.Warmed39 s.vm) {own : String} {idx : Nat} {y : MethodName} {yb : ByteArray} {yml : Nat} {yrt : Option FieldType} {rm : Room} {as : Array Value} {Qc : Option Value → Heap → List Loc → Prop} {a : Addr} {C : String} (argsL : List Value) (has : (.ref a :: argsL).toArray = as) (hown : s.vm.findClass own = some m.cls) (w1 : (Jvm.Cond.methodLink own idx y).before a0 Z = true) (w2 : (Jvm.Cond.instanceMethod y).before a0 Z = true) {kk : Nat} (w6 : (Jvm.Cond.instantiable y.cls kk).before a0 Z = true) (w7 : (Jvm.Cond.privateMethod y).before a0 Z = true) (w3 : (Jvm.Cond.initialized y.cls).before a0 Z = true) (w4 : (Jvm.Cond.code y yb yml yrt).before a0 Z = true) (E : Exa Z h a C) (hy : y.cls ≠ "java/lang/invoke/MethodHandle" ∧ y.cls ≠ "java/lang/invoke/VarHandle") (hd : decode bs pc = .ok (.invokevirtual idx, 3)) (hM : Met1 l Z y yb yml yrt rm as h Qc) (eT : T.heap = h) {ps : List FieldType} {pr : Option FieldType} (hpd : parseMethodDescriptor y.desc = some ⟨ps, pr⟩) (hlen : argsL.length = ps.length) (hml : Ls.size = c.maxLocals) (hf : rm.frames + 1 ≤ R.frames) (W : Nat) (hW : (st.map fun v => v.category).sum = W) (hl : W + (yml + 11) + rm.locals ≤ R.locals) (hcl : cells + rm.cells ≤ R.cells) (hsl : slots + rm.slots ≤ R.slots) (pc' : Nat) (hp : pc + 3 = pc') (k : ∀ (T' : State) (L : List Loc) (v : Option Value), Stand p l e R s m args below meth c T' (locs ++ L) (cells + rm.cells) (slots + rm.slots) → Qc v T'.heap L → Go p e below G T' (mkF m pc' Ls (v.toList ++ st))) : Go p e below G T (mkF m pc Ls (argsL.reverse ++ .ref a :: st)) := by
  subst has
  obtain ⟨cq, q1, q2⟩ := E.cell
  have pv := Cond.privateMethod_at (mvP hZ w7 (args := #[]))
  have sel : (Jvm.Cond.selects y.cls y y).before args s = true := by
    obtain ⟨c1, k1, r1, r2, -, r3, -, -⟩ := Cond.instantiable_spec (mvT (args := args) hZ w6)
    exact selects_self_of_private r1 r2 (Bool.or_eq_false_iff.mp r3).1 pv (mvT hZ w2) hy
  subst hp
  obtain ⟨v, vm₁, ⟨T1, L1, k1, n1⟩, -, X1, ⟨Lc, hQ, l1, y1, z1⟩, st1⟩ := X.privateBack hx (y := y) hown (mvT hZ w1) (mvT hZ w2) sel pv (mvT hZ w4) hy (backOf (W := W) (hM []) hZ w4 w3 hf hl) (g := mkF m pc Ls (argsL.reverse ++ .ref a :: st)) rfl hml (Steps.refl _) (a := a) (by rw [eT]; exact q1) q2 (argsL := argsL) (rest := st) (lenOf hpd hlen) rfl (by show 2 * 0 + _ ≤ _; omega) (hb hby hd) (fun _ _ => ⟨rfl, eT, hcl, hsl⟩)
  dsimp only [Pt.U, Pt.locs, Pt.cells, Pt.slots] at X1 l1 y1 z1 st1 hQ
  subst l1 y1 z1
  exact Go.by (fun t q => st1.trans q) (k T1 Lc v X1 hQ)
theorem own_instY (X : Stand p l e R s m args below meth c T locs cells slots) (hx : p.tables.exec = Jvm.exec) (hby : c.code = bs) (hZ : Z.Warmed39 s.vm) {own K : String} {idx : Nat} {a : Addr} (hown : s.vm.findClass own = some m.cls) (w : (Jvm.Cond.classLink own idx K).before a0 Z = true) (eT : T.heap = h) (F : Ins Z h a K true) (hd : decode bs pc = .ok (.instanceof idx, 3)) (pc' : Nat) (hp : pc + 3 = pc') (k : ∀ T', Stand p l e R s m args below meth c T' locs cells slots → T'.heap = h → Go p e below G T' (mkF m pc' Ls (.int 1 :: st))) : Go p e below G T (mkF m pc Ls (.ref a :: st)) := by
  subst hp
  obtain ⟨T1, X1, e1, st1⟩ := instY X hx hZ hown w eT F (g := mkF m pc Ls (.ref a :: st)) rfl rfl (hb hby hd)
  exact Go.by (fun t q => st1 t q) (k T1 X1 e1)
theorem own_instNo (X : Stand p l e R s m args below meth c T locs cells slots) (hx : p.tables.exec = Jvm.exec) (hby : c.code = bs) (hZ : Z.Warmed39 s.vm) {own K : String} {idx : Nat} {a : Addr} (hown : s.vm.findClass own = some m.cls) (w : (Jvm.Cond.classLink own idx K).before a0 Z = true) (eT : T.heap = h) {C : String} (E : Exa Z h a C) (F : ∃ c t, Z.vm.findClass C = some c ∧ Z.vm.findClass K = some t ∧ Z.vm.assignable c t = false) (hd : decode bs pc = .ok (.instanceof idx, 3)) (pc' : Nat) (hp : pc + 3 = pc') (k : ∀ T', Stand p l e R s m args below meth c T' locs cells slots → T'.heap = h → Go p e below G T' (mkF m pc' Ls (.int 0 :: st))) : Go p e below G T (mkF m pc Ls (.ref a :: st)) := by
  subst hp
  obtain ⟨T1, X1, e1, st1⟩ := instNo X hx hZ hown w eT E F (g := mkF m pc Ls (.ref a :: st)) rfl rfl (hb hby hd)
  exact Go.by (fun t q => st1 t q) (k T1 X1 e1)
theorem own_castY (X : Stand p l e R s m args below meth c T locs cells slots) (hx : p.tables.exec = Jvm.exec) (hby : c.code = bs) (hZ : Z.Warmed39 s.vm) {own K : String} {idx : Nat} {a : Addr} (hown : s.vm.findClass own = some m.cls) (w : (Jvm.Cond.classLink own idx K).before a0 Z = true) (eT : T.heap = h) (F : Ins Z h a K true) (hd : decode bs pc = .ok (.checkcast idx, 3)) (pc' : Nat) (hp : pc + 3 = pc') (k : ∀ T', Stand p l e R s m args below meth c T' locs cells slots → T'.heap = h → Go p e below G T' (mkF m pc' Ls (.ref a :: st))) : Go p e below G T (mkF m pc Ls (.ref a :: st)) := by
  subst hp
  obtain ⟨T1, X1, e1, st1⟩ := castY X hx hZ hown w eT F (g := mkF m pc Ls (.ref a :: st)) rfl rfl (hb hby hd)
  exact Go.by (fun t q => st1 t q) (k T1 X1 e1)
theorem own_instNull (X : Stand p l e R s m args below meth c T locs cells slots) (hx : p.tables.exec = Jvm.exec) (hby : c.code = bs) {idx : Nat} (hd : decode bs pc = .ok (.instanceof idx, 3)) (pc' : Nat) (hp : pc + 3 = pc') (k : Go p e below G T (mkF m pc' Ls (.int 0 :: st))) : Go p e below G T (mkF m pc Ls (.null :: st)) := by
  subst hp
  exact Go.by (fun t q => X.instanceofNull hx (g := mkF m pc Ls (.null :: st)) rfl rfl (hb hby hd) t q) k
theorem own_castNull (X : Stand p l e R s m args below meth c T locs cells slots) (hx : p.tables.exec = Jvm.exec) (hby : c.code = bs) {idx : Nat} (hd : decode bs pc = .ok (.checkcast idx, 3)) (pc' : Nat) (hp : pc + 3 = pc') (k : Go p e below G T (mkF m pc' Ls (.null :: st))) : Go p e below G T (mkF m pc Ls (.null :: st)) := by
  subst hp
  exact Go.by (fun t q => X.checkcastNull hx (g := mkF m pc Ls (.null :: st)) rfl rfl (hb hby hd) t q) k
theorem own_acmp (X : Stand p l e R s m args below meth c T locs cells slots) (hx : p.tables.exec = Jvm.exec) (hby : c.code = bs) {cd : ACond} {o : Int} {x y : Value} (same : Bool) (hd : decode bs pc = .ok (.if_acmp cd o, 3)) (h1 : x.isRef = true) (h2 : y.isRef = true) (hq : decide (x = y) = same) (ho : 0 ≤ (pc : Int) + o) (pc' : Nat) (hp : pc' = if acV cd same = true then ((pc : Int) + o).toNat else pc + 3) (k : Go p e below G T (mkF m pc' Ls st)) : Go p e below G T (mkF m pc Ls (y :: x :: st)) :=
  Go.by (fun t q => Jvm.RoadKit.acmp (g := mkF m pc Ls (y :: x :: st)) X hx rfl h1 h2 (pc0 := pc) (pc' := pc') (same := same) rfl (hb hby hd) rfl hq ho hp q) k
theorem own_getS (X : Stand p l e R s m args below meth c T locs cells slots) (hx : p.tables.exec = Jvm.exec) (hby : c.code = bs) (hZ : Z.Warmed39 s.vm) {own R0 O n d host : String} {idx : Nat} {v : Value} (hown : s.vm.findClass own = some m.cls) (w : (Jvm.Cond.fieldLink own idx R0 n d).before a0 Z = true ∨ (Jvm.Cond.fieldLinkNest own idx R0 n d host).before a0 Z = true) (via : Via Z R0 O n d) (eT : T.heap = h) (F : Sta Z h O n d v) (hd : decode bs pc = .ok (.getstatic idx, 3)) (pc' : Nat) (hp : pc + 3 = pc') (k : ∀ T', Stand p l e R s m args below meth c T' locs cells slots → T'.heap = h → Go p e below G T' (mkF m pc' Ls (v :: st))) : Go p e below G T (mkF m pc Ls st) := by
  subst hp
  obtain ⟨T1, X1, e1, st1⟩ := getS2 X hx hZ hown w via eT F (g := mkF m pc Ls st) rfl (hb hby hd)
  exact Go.by (fun t q => st1 t q) (k T1 X1 e1)
/-- an array of n places that hold what f says -/
def Afn (Z : State) (h : Heap) (a : Addr) (ty : FieldType) (n : Nat) (f : Nat → Value) : Prop := ∃ cl : Cell, Arr Z h a cl ty ∧ cl.slots.size = n ∧ ∀ i, i < n → cl.slots[i]? = some (f i) ∧ fits ty (f i) = true
def upd (f : Nat → Value) (i : Nat) (v : Value) : Nat → Value := fun j => if j = i then v else f j
theorem Afn.lt {a : Addr} {ty : FieldType} {n : Nat} {f : Nat → Value} (F : Afn Z h a ty n f) : a < h.size := by obtain ⟨cl, A, -⟩ := F; exact A.lt
theorem Afn.ext {h' : Heap} {a : Addr} {ty : FieldType} {n : Nat} {f : Nat → Value} (F : Afn Z h a ty n f) (E : Ext h h') : Afn Z h' a ty n f := by obtain ⟨cl, A, r⟩ := F; exact ⟨cl, A.ext E, r⟩
theorem Afn.other {h' : Heap} {a b : Addr} {sl : Nat} {v : Value} {ty : FieldType} {n : Nat} {f : Nat → Value} (F : Afn Z h b ty n f) (W : Wr h h' a sl v) (q : b ≠ a) : Afn Z h' b ty n f := by obtain ⟨cl, A, r⟩ := F; exact ⟨cl, A.other W q, r⟩
theorem Afn.keep {h' : Heap} {a : Addr} {ws : List Addr} {ty : FieldType} {n : Nat} {f : Nat → Value} (F : Afn Z h a ty n f) (K : Keep h h' ws) (q : a ∉ ws) : Afn Z h' a ty n f := by obtain ⟨cl, A, r⟩ := F; exact ⟨cl, ⟨K.2.1 a cl A.1 q, A.2⟩, r⟩
theorem Afn.to {a : Addr} {ty : FieldType} {n : Nat} {f f' : Nat → Value} (F : Afn Z h a ty n f) (q : ∀ i, i < n → f i = f' i) : Afn Z h a ty n f' := by obtain ⟨cl, A, S, H⟩ := F; exact ⟨cl, A, S, fun i hi => q i hi ▸ H i hi⟩
theorem Afn.new {a : Addr} {k : ClassId} {ty : FieldType} {z : Int32} {n : Nat} (A : Arr Z h a (newA k ty z) ty) (q : z.toNatClampNeg = n) : Afn Z h a ty n (fun _ => defaultValue ty) := by
  refine ⟨_, A, by rw [sz_new]; exact q, fun i hi => ⟨?_, by cases ty <;> rfl⟩⟩
  subst q
  show (Array.replicate z.toNatClampNeg (defaultValue ty))[i]? = _
  rw [Array.getElem?_replicate, if_pos hi]
theorem Afn.set {h' : Heap} {a : Addr} {ty : FieldType} {n i : Nat} {v : Value} {f : Nat → Value} (F : Afn Z h a ty n f) (W : Wr h h' a i v) (hi : i < n) (hv : fits ty v = true) : Afn Z h' a ty n (upd f i v) := by
  obtain ⟨cl, A, S, H⟩ := F
  refine ⟨cl.setSlot i v, A.same W, by rw [sz_set]; exact S, fun j hj => ?_⟩
  unfold upd
  by_cases q : j = i
  · subst q
    rw [if_pos rfl]
    refine ⟨?_, hv⟩
    show (cl.slots.setIfInBounds j v)[j]? = some v
    rw [Array.getElem?_setIfInBounds_self_of_lt (by rw [S]; exact hj)]
  · rw [if_neg q]
    refine ⟨?_, (H j hj).2⟩
    rw [← (H j hj).1]
    exact Array.getElem?_setIfInBounds_ne (Ne.symm q)
theorem own_in {j : Int32} {n : Nat} (h0 : 0 ≤ j.toInt) (h1 : j.toInt < n) : ¬ (j < 0 ∨ n ≤ j.toNatClampNeg) := by
  simp only [Int32.lt_iff_toInt_lt, Int32.toNatClampNeg, Int32.reduceToInt]; omega
/-- an array of ints (bytes, chars, shorts): n places that hold what g says -/
def Afi (Z : State) (h : Heap) (a : Addr) (ty : FieldType) (n : Nat) (g : Nat → Int32) : Prop := Afn Z h a ty n (fun i => .int (g i))
def updI (g : Nat → Int32) (i : Nat) (v : Int32) : Nat → Int32 := fun j => if j = i then v else g j
theorem Afi.lt {a : Addr} {ty : FieldType} {n : Nat} {g : Nat → Int32} (F : Afi Z h a ty n g) : a < h.size := Afn.lt F
theorem Afi.ext {h' : Heap} {a : Addr} {ty : FieldType} {n : Nat} {g : Nat → Int32} (F : Afi Z h a ty n g) (E : Ext h h') : Afi Z h' a ty n g := Afn.ext F E
theorem Afi.other {h' : Heap} {a b : Addr} {sl : Nat} {v : Value} {ty : FieldType} {n : Nat} {g : Nat → Int32} (F : Afi Z h b ty n g) (W : Wr h h' a sl v) (q : b ≠ a) : Afi Z h' b ty n g := Afn.other F W q
theorem Afi.keep {h' : Heap} {a : Addr} {ws : List Addr} {ty : FieldType} {n : Nat} {g : Nat → Int32} (F : Afi Z h a ty n g) (K : Keep h h' ws) (q : a ∉ ws) : Afi Z h' a ty n g := Afn.keep F K q
theorem Afi.to {a : Addr} {ty : FieldType} {n : Nat} {g g' : Nat → Int32} (F : Afi Z h a ty n g) (q : ∀ i, i < n → g i = g' i) : Afi Z h a ty n g' := Afn.to F fun i hi => congrArg Value.int (q i hi)
theorem Afi.set {h' : Heap} {a : Addr} {ty : FieldType} {n i : Nat} {v : Int32} {g : Nat → Int32} (F : Afi Z h a ty n g) (W : Wr h h' a i (.int v)) (hi : i < n) (hv : fits ty (.int v) = true) : Afi Z h' a ty n (updI g i v) :=
  (Afn.set F W hi hv).to fun j _ => by
    unfold upd updI
    by_cases q : j = i
    · rw [if_pos q, if_pos q]
    · rw [if_neg q, if_neg q]
theorem own_iaload (X : Stand p l e R s m args below meth c T locs cells slots) (hx : p.tables.exec = Jvm.exec) (hby : c.code = bs) (hZ : Z.Warmed39 s.vm) {a : Addr} {j : Int32} {n : Nat} {g : Nat → Int32} (v : Int32) (eT : T.heap = h) (F : Afi Z h a .int n g) (hj : ¬ (j < 0 ∨ n ≤ j.toNatClampNeg)) (hv : g j.toNatClampNeg = v) (hd : decode bs pc = .ok (.iaload, 1)) (pc' : Nat) (hp : pc + 1 = pc') (k : Go p e below G T (mkF m pc' Ls (.int v :: st))) : Go p e below G T (mkF m pc Ls (.int j :: .ref a :: st)) := by
  subst hp
  subst hv
  obtain ⟨cl, A, S, H⟩ := F
  subst S
  exact Go.by (fun t q => X.iaload hx (j := j) (v := .int (g j.toNatClampNeg)) (by rw [eT]; exact A.1) (State.isArrayOf_alike hZ.alike A.2.1) A.2.2 hj (H _ (Nat.lt_of_not_le fun q => hj (Or.inr q))).1 (g := mkF m pc Ls (.int j :: .ref a :: st)) rfl rfl (hb hby hd) t q) k
theorem own_baload (X : Stand p l e R s m args below meth c T locs cells slots) (hx : p.tables.exec = Jvm.exec) (hby : c.code = bs) (hZ : Z.Warmed39 s.vm) {a : Addr} {j : Int32} {n : Nat} {g : Nat → Int32} (v : Int32) (eT : T.heap = h) (F : Afi Z h a .byte n g) (hj : ¬ (j < 0 ∨ n ≤ j.toNatClampNeg)) (hv : g j.toNatClampNeg = v) (hd : decode bs pc = .ok (.baload, 1)) (pc' : Nat) (hp : pc + 1 = pc') (k : Go p e below G T (mkF m pc' Ls (.int v :: st))) : Go p e below G T (mkF m pc Ls (.int j :: .ref a :: st)) := by
  subst hp
  subst hv
  obtain ⟨cl, A, S, H⟩ := F
  subst S
  exact Go.by (fun t q => X.baloadBytes hx (j := j) (v := .int (g j.toNatClampNeg)) (by rw [eT]; exact A.1) (State.isArrayOf_alike hZ.alike A.2.1) A.2.2 hj (H _ (Nat.lt_of_not_le fun q => hj (Or.inr q))).1 (g := mkF m pc Ls (.int j :: .ref a :: st)) rfl rfl (hb hby hd) t q) k
theorem own_caload (X : Stand p l e R s m args below meth c T locs cells slots) (hx : p.tables.exec = Jvm.exec) (hby : c.code = bs) (hZ : Z.Warmed39 s.vm) {a : Addr} {j : Int32} {n : Nat} {g : Nat → Int32} (v : Int32) (eT : T.heap = h) (F : Afi Z h a .char n g) (hj : ¬ (j < 0 ∨ n ≤ j.toNatClampNeg)) (hv : g j.toNatClampNeg = v) (hd : decode bs pc = .ok (.caload, 1)) (pc' : Nat) (hp : pc + 1 = pc') (k : Go p e below G T (mkF m pc' Ls (.int v :: st))) : Go p e below G T (mkF m pc Ls (.int j :: .ref a :: st)) := by
  subst hp
  subst hv
  obtain ⟨cl, A, S, H⟩ := F
  subst S
  exact Go.by (fun t q => X.caload hx (j := j) (v := .int (g j.toNatClampNeg)) (by rw [eT]; exact A.1) (State.isArrayOf_alike hZ.alike A.2.1) A.2.2 hj (H _ (Nat.lt_of_not_le fun q => hj (Or.inr q))).1 (g := mkF m pc Ls (.int j :: .ref a :: st)) rfl rfl (hb hby hd) t q) k
theorem own_saload (X : Stand p l e R s m args below meth c T locs cells slots) (hx : p.tables.exec = Jvm.exec) (hby : c.code = bs) (hZ : Z.Warmed39 s.vm) {a : Addr} {j : Int32} {n : Nat} {g : Nat → Int32} (v : Int32) (eT : T.heap = h) (F : Afi Z h a .short n g) (hj : ¬ (j < 0 ∨ n ≤ j.toNatClampNeg)) (hv : g j.toNatClampNeg = v) (hd : decode bs pc = .ok (.saload, 1)) (pc' : Nat) (hp : pc + 1 = pc') (k : Go p e below G T (mkF m pc' Ls (.int v :: st))) : Go p e below G T (mkF m pc Ls (.int j :: .ref a :: st)) := by
  subst hp
  subst hv
  obtain ⟨cl, A, S, H⟩ := F
  subst S
  exact Go.by (fun t q => X.saload hx (j := j) (v := .int (g j.toNatClampNeg)) (by rw [eT]; exact A.1) (State.isArrayOf_alike hZ.alike A.2.1) A.2.2 hj (H _ (Nat.lt_of_not_le fun q => hj (Or.inr q))).1 (g := mkF m pc Ls (.int j :: .ref a :: st)) rfl rfl (hb hby hd) t q) k
theorem own_aaload (X : Stand p l e R s m args below meth c T locs cells slots) (hx : p.tables.exec = Jvm.exec) (hby : c.code = bs) (hZ : Z.Warmed39 s.vm) {a : Addr} {j : Int32} {n : Nat} {ty : FieldType} {f : Nat → Value} (v : Value) (eT : T.heap = h) (F : Afn Z h a ty n f) (hty : ty.isReference = true) (hj : ¬ (j < 0 ∨ n ≤ j.toNatClampNeg)) (hv : f j.toNatClampNeg = v) (hd : decode bs pc = .ok (.aaload, 1)) (pc' : Nat) (hp : pc + 1 = pc') (k : Go p e below G T (mkF m pc' Ls (v :: st))) : Go p e below G T (mkF m pc Ls (.int j :: .ref a :: st)) := by
  subst hp
  subst hv
  obtain ⟨cl, A, S, H⟩ := F
  subst S
  exact Go.by (fun t q => X.aaload hx (j := j) (v := f j.toNatClampNeg) (by rw [eT]; exact A.1) (State.isArrayOf_alike hZ.alike A.2.1) hty A.2.2 hj (H _ (Nat.lt_of_not_le fun q => hj (Or.inr q))).1 (g := mkF m pc Ls (.int j :: .ref a :: st)) rfl rfl (hb hby hd) t q) k
theorem own_arraylength (X : Stand p l e R s m args below meth c T locs cells slots) (hx : p.tables.exec = Jvm.exec) (hby : c.code = bs) (hZ : Z.Warmed39 s.vm) {a : Addr} {ty : FieldType} {n : Nat} {f : Nat → Value} (z : Int32) (eT : T.heap = h) (F : Afn Z h a ty n f) (hz : n.toInt32 = z) (hd : decode bs pc = .ok (.arraylength, 1)) (pc' : Nat) (hp : pc + 1 = pc') (k : Go p e below G T (mkF m pc' Ls (.int z :: st))) : Go p e below G T (mkF m pc Ls (.ref a :: st)) := by
  subst hp
  subst hz
  obtain ⟨cl, A, S, H⟩ := F
  subst S
  exact Go.by (fun t q => X.arraylength hx (by rw [eT]; exact A.1) (State.isArrayOf_alike hZ.alike A.2.1) (g := mkF m pc Ls (.ref a :: st)) rfl rfl (hb hby hd) t q) k
theorem own_iastore (X : Stand p l e R s m args below meth c T locs cells slots) (hx : p.tables.exec = Jvm.exec) (hby : c.code = bs) (hZ : Z.Warmed39 s.vm) {a : Addr} {j x : Int32} {n : Nat} {g : Nat → Int32} (eT : T.heap = h) (F : Afi Z h a .int n g) (hj : ¬ (j < 0 ∨ n ≤ j.toNatClampNeg)) (hd : decode bs pc = .ok (.iastore, 1)) (pc' : Nat) (hp : pc + 1 = pc') (k : ∀ T' h', Stand p l e R s m args below meth c T' (locs ++ [⟨a, j.toNatClampNeg⟩]) cells slots → T'.heap = h' → Wr h h' a j.toNatClampNeg (.int x) → Afi Z h' a .int n (updI g j.toNatClampNeg x) → Go p e below G T' (mkF m pc' Ls st)) : Go p e below G T (mkF m pc Ls (.int x :: .int j :: .ref a :: st)) := by
  subst hp
  have F0 := F
  obtain ⟨cl, A, S, H⟩ := F
  obtain ⟨T1, h1, X1, e1, W1, st1⟩ := stI X hx hZ eT A (j := j) (x := x) (by rw [S]; exact hj) (g := mkF m pc Ls (.int x :: .int j :: .ref a :: st)) rfl rfl (hb hby hd)
  exact Go.by (fun t q => st1 t q) (k T1 h1 X1 e1 W1 (F0.set W1 (Nat.lt_of_not_le fun q => hj (Or.inr q)) rfl))
theorem own_bastore (X : Stand p l e R s m args below meth c T locs cells slots) (hx : p.tables.exec = Jvm.exec) (hby : c.code = bs) (hZ : Z.Warmed39 s.vm) {a : Addr} {j x : Int32} {n : Nat} {g : Nat → Int32} (eT : T.heap = h) (F : Afi Z h a .byte n g) (hj : ¬ (j < 0 ∨ n ≤ j.toNatClampNeg)) (hd : decode bs pc = .ok (.bastore, 1)) (pc' : Nat) (hp : pc + 1 = pc') (k : ∀ T' h', Stand p l e R s m args below meth c T' (locs ++ [⟨a, j.toNatClampNeg⟩]) cells slots → T'.heap = h' → Wr h h' a j.toNatClampNeg (.int (nar .byte x)) → Afi Z h' a .byte n (updI g j.toNatClampNeg (nar .byte x)) → Go p e below G T' (mkF m pc' Ls st)) : Go p e below G T (mkF m pc Ls (.int x :: .int j :: .ref a :: st)) := by
  subst hp
  have F0 := F
  obtain ⟨cl, A, S, H⟩ := F
  obtain ⟨T1, h1, X1, e1, W1, st1⟩ := stB X hx hZ eT A (j := j) (x := x) (by rw [S]; exact hj) (g := mkF m pc Ls (.int x :: .int j :: .ref a :: st)) rfl rfl (hb hby hd)
  exact Go.by (fun t q => st1 t q) (k T1 h1 X1 e1 W1 (F0.set W1 (Nat.lt_of_not_le fun q => hj (Or.inr q)) (fits_nar_byte x)))
theorem own_castore (X : Stand p l e R s m args below meth c T locs cells slots) (hx : p.tables.exec = Jvm.exec) (hby : c.code = bs) (hZ : Z.Warmed39 s.vm) {a : Addr} {j x : Int32} {n : Nat} {g : Nat → Int32} (eT : T.heap = h) (F : Afi Z h a .char n g) (hj : ¬ (j < 0 ∨ n ≤ j.toNatClampNeg)) (hd : decode bs pc = .ok (.castore, 1)) (pc' : Nat) (hp : pc + 1 = pc') (k : ∀ T' h', Stand p l e R s m args below meth c T' (locs ++ [⟨a, j.toNatClampNeg⟩]) cells slots → T'.heap = h' → Wr h h' a j.toNatClampNeg (.int (nar .char x)) → Afi Z h' a .char n (updI g j.toNatClampNeg (nar .char x)) → Go p e below G T' (mkF m pc' Ls st)) : Go p e below G T (mkF m pc Ls (.int x :: .int j :: .ref a :: st)) := by
  subst hp
  have F0 := F
  obtain ⟨cl, A, S, H⟩ := F
  obtain ⟨T1, h1, X1, e1, W1, st1⟩ := stC X hx hZ eT A (j := j) (x := x) (by rw [S]; exact hj) (g := mkF m pc Ls (.int x :: .int j :: .ref a :: st)) rfl rfl (hb hby hd)
  exact Go.by (fun t q => st1 t q) (k T1 h1 X1 e1 W1 (F0.set W1 (Nat.lt_of_not_le fun q => hj (Or.inr q)) (fits_nar_char x)))
theorem own_sastore (X : Stand p l e R s m args below meth c T locs cells slots) (hx : p.tables.exec = Jvm.exec) (hby : c.code = bs) (hZ : Z.Warmed39 s.vm) {a : Addr} {j x : Int32} {n : Nat} {g : Nat → Int32} (eT : T.heap = h) (F : Afi Z h a .short n g) (hj : ¬ (j < 0 ∨ n ≤ j.toNatClampNeg)) (hd : decode bs pc = .ok (.sastore, 1)) (pc' : Nat) (hp : pc + 1 = pc') (k : ∀ T' h', Stand p l e R s m args below meth c T' (locs ++ [⟨a, j.toNatClampNeg⟩]) cells slots → T'.heap = h' → Wr h h' a j.toNatClampNeg (.int (nar .short x)) → Afi Z h' a .short n (updI g j.toNatClampNeg (nar .short x)) → Go p e below G T' (mkF m pc' Ls st)) : Go p e below G T (mkF m pc Ls (.int x :: .int j :: .ref a :: st)) := by
  subst hp
  have F0 := F
  obtain ⟨cl, A, S, H⟩ := F
  obtain ⟨T1, h1, X1, e1, W1, st1⟩ := stS X hx hZ eT A (j := j) (x := x) (by rw [S]; exact hj) (g := mkF m pc Ls (.int x :: .int j :: .ref a :: st)) rfl rfl (hb hby hd)
  exact Go.by (fun t q => st1 t q) (k T1 h1 X1 e1 W1 (F0.set W1 (Nat.lt_of_not_le fun q => hj (Or.inr q)) (fits_nar_short x)))
theorem own_aastore (X : Stand p l e R s m args below meth c T locs cells slots) (hx : p.tables.exec = Jvm.exec) (hby : c.code = bs) (hZ : Z.Warmed39 s.vm) {a : Addr} {j : Int32} {v : Value} {n : Nat} {ty : FieldType} {f : Nat → Value} (eT : T.heap = h) (F : Afn Z h a ty n f) (hj : ¬ (j < 0 ∨ n ≤ j.toNatClampNeg)) (hty : ty.isReference = true) (hfv : fits ty v = true) (So : Sto Z h a v) (hd : decode bs pc = .ok (.aastore, 1)) (pc' : Nat) (hp : pc + 1 = pc') (k : ∀ T' h', Stand p l e R s m args below meth c T' (locs ++ [⟨a, j.toNatClampNeg⟩]) cells slots → T'.heap = h' → Wr h h' a j.toNatClampNeg v → Afn Z h' a ty n (upd f j.toNatClampNeg v) → Go p e below G T' (mkF m pc' Ls st)) : Go p e below G T (mkF m pc Ls (v :: .int j :: .ref a :: st)) := by
  subst hp
  have F0 := F
  obtain ⟨cl, A, S, H⟩ := F
  obtain ⟨T1, h1, X1, e1, W1, st1⟩ := stR X hx hZ eT A (j := j) (by rw [S]; exact hj) hty So (g := mkF m pc Ls (v :: .int j :: .ref a :: st)) rfl rfl (hb hby hd)
  exact Go.by (fun t q => st1 t q) (k T1 h1 X1 e1 W1 (F0.set W1 (Nat.lt_of_not_le fun q => hj (Or.inr q)) hfv))
theorem own_newarray (X : Stand p l e R s m args below meth c T locs cells slots) (hx : p.tables.exec = Jvm.exec) (hby : c.code = bs) (hZ : Z.Warmed39 s.vm) {aty : ArrayType} {z : Int32} {n cap : Nat} {ad : String} (w : (Jvm.Cond.arrayClass (newarray.typeOf aty)).before a0 Z = true) (eT : T.heap = h) (hd : decode bs pc = .ok (.newarray aty, 2)) (hz : ¬ z < 0) (hn : z.toNatClampNeg = n) (hcap : n ≤ cap) (hb8 : cap * 8 ≤ 536870912) (hcl : cells + 1 ≤ R.cells) (hsl : slots + cap ≤ R.slots) (had : "[" ++ (newarray.typeOf aty).toString = ad) (pc' : Nat) (hp : pc + 2 = pc') (k : ∀ T' h' (b : Addr), b = h.size → Stand p l e R s m args below meth c T' locs (cells + 1) (slots + cap) → T'.heap = h' → Ext h h' → Afn Z h' b (newarray.typeOf aty) n (fun _ => defaultValue (newarray.typeOf aty)) → Exa Z h' b ad → Go p e below G T' (mkF m pc' Ls (.ref b :: st))) : Go p e below G T (mkF m pc Ls (.int z :: st)) := by
  subst hp
  obtain ⟨T1, h1, cA, X1, e1, E1, A1, Ex1, st1⟩ := newPE X hx hZ w eT (g := mkF m pc Ls (.int z :: st)) rfl (hb hby hd) rfl hz (cap := cap) (by rw [hn]; exact hcap) hb8 hcl hsl had
  exact Go.by (fun t q => st1 t q) (k T1 h1 _ rfl X1 e1 E1 (Afn.new A1 hn) Ex1)
theorem own_anewarray (X : Stand p l e R s m args below meth c T locs cells slots) (hx : p.tables.exec = Jvm.exec) (hby : c.code = bs) (hZ : Z.Warmed39 s.vm) {own C : String} {idx : Nat} {z : Int32} {n cap : Nat} {ad : String} (hown : s.vm.findClass own = some m.cls) (w1 : (Jvm.Cond.classLink own idx C).before a0 Z = true) (w2 : (Jvm.Cond.arrayOver (.object C)).before a0 Z = true) (eT : T.heap = h) (hd : decode bs pc = .ok (.anewarray idx, 3)) (hz : ¬ z < 0) (hn : z.toNatClampNeg = n) (hcap : n ≤ cap) (hb8 : cap * 8 ≤ 536870912) (hcl : cells + 1 ≤ R.cells) (hsl : slots + cap ≤ R.slots) (had : "[" ++ (FieldType.object C).toString = ad) (pc' : Nat) (hp : pc + 3 = pc') (k : ∀ T' h' (b : Addr) cA, b = h.size → Stand p l e R s m args below meth c T' locs (cells + 1) (slots + cap) → T'.heap = h' → Ext h h' → Afn Z h' b (.object C) n (fun _ => .null) → Exa Z h' b ad → Arr Z h' b (newA cA (.object C) z) (.object C) → Ovr Z cA C → Go p e below G T' (mkF m pc' Ls (.ref b :: st))) : Go p e below G T (mkF m pc Ls (.int z :: st)) := by
  subst hp
  obtain ⟨T1, h1, cA, X1, e1, E1, A1, Ex1, O1, st1⟩ := newRE X hx hZ hown w1 w2 eT (g := mkF m pc Ls (.int z :: st)) rfl (hb hby hd) rfl hz (cap := cap) (by rw [hn]; exact hcap) hb8 hcl hsl had
  exact Go.by (fun t q => st1 t q) (k T1 h1 _ cA rfl X1 e1 E1 (Afn.new A1 hn) Ex1 A1 O1)
theorem own_lremV (x y : Int64) : 0 ≤ x.toInt → 0 < y.toInt → 0 ≤ (x % y).toInt ∧ (x % y).toInt < y.toInt := by
  intro h1 h2
  rw [Int64.toInt_mod, (tr x.toInt y.toInt).1 h1]
  exact ⟨Int.emod_nonneg _ (by omega), Int.emod_lt_of_pos _ h2⟩
theorem own_NSroot {O K : String} {n : Nat} (w : (Jvm.Cond.noSuperclass O).before a0 Z = true) (wk : (Jvm.Cond.instantiable K n).before a0 Z = true) (hn : O ≠ K) : NS Z O K := by
  obtain ⟨c, k, h1, h2, h3, -, -⟩ := Cond.noSuperclass_spec w
  obtain ⟨t, k2, g1, -⟩ := Cond.instantiable_spec wk
  have ne := ids_ne h1 g1 hn
  refine ⟨c, t, h1, g1, fun fuel => ?_⟩
  cases fuel with
  | zero => rfl
  | succ f => simp [Vm.isSubclassAux, ne, h2, h3]
theorem own_NSno {C S K : String} {n : Nat} (w : (Jvm.Cond.superclass C S).before a0 Z = true) (wk : (Jvm.Cond.instantiable K n).before a0 Z = true) (nn : NS Z C K) (hn : C ≠ K) : ∃ c t, Z.vm.findClass C = some c ∧ Z.vm.findClass K = some t ∧ Z.vm.assignable c t = false := by
  obtain ⟨c, t, h0, g0, n3⟩ := nn
  obtain ⟨p, k, kp, h1, h2, h3, h4, h5, -, h7⟩ := Cond.superclass_spec h0 w
  obtain ⟨t', k', g1, g2, g5, g6, -, -⟩ := Cond.instantiable_spec wk
  cases g0.symm.trans g1
  have ne := ids_ne h0 g0 hn
  have g7 : k'.isInterface = false := (Bool.or_eq_false_iff.mp g6).1
  refine ⟨c, t, h0, g0, ?_⟩
  show Z.vm.assignableAux (255 + 1) c t = false
  simp [Vm.assignableAux, ne, h2, g2, h5, g5, g7, Vm.isSubclass, n3]
theorem own_ext0 {h0 : Heap} (K : Keep h0 h []) : Ext h0 h := ⟨K.1, fun a c q => K.2.1 a c q nin0⟩
/-- an array of references over the class C takes objects of C -/
def Orr (Z : State) (h : Heap) (b : Addr) (C : String) : Prop := ∃ (c : Cell) (cA : ClassId), Arr Z h b c (.object C) ∧ c.cls = cA ∧ Ovr Z cA C
theorem Orr.lt {b : Addr} {C : String} (F : Orr Z h b C) : b < h.size := by obtain ⟨c, cA, A, -⟩ := F; exact A.lt
theorem Orr.ext {h' : Heap} {b : Addr} {C : String} (F : Orr Z h b C) (E : Ext h h') : Orr Z h' b C := by obtain ⟨c, cA, A, r⟩ := F; exact ⟨c, cA, A.ext E, r⟩
theorem Orr.wr {h' : Heap} {a b : Addr} {C : String} {sl : Nat} {v : Value} (F : Orr Z h b C) (W : Wr h h' a sl v) : Orr Z h' b C := by
  obtain ⟨c, cA, A, q, O⟩ := F
  by_cases e : b = a
  · subst e; exact ⟨_, cA, A.same W, q, O⟩
  · exact ⟨c, cA, A.other W e, q, O⟩
theorem Orr.sto {b y : Addr} {C : String} (F : Orr Z h b C) (I : Ins Z h y C true) : Sto Z h b (.ref y) := by
  obtain ⟨c, cA, A, q, O⟩ := F
  exact Sto.ofV A q O I
theorem own_clone (X : Stand p l e R s m args below meth c T locs cells slots) (hx : p.tables.exec = Jvm.exec) (hby : c.code = bs) (hZ : Z.Warmed39 s.vm) {own ad : String} {idx : Nat} {a : Addr} {ty : FieldType} {n cap : Nat} {g : Nat → Int32} (hown : s.vm.findClass own = some m.cls) (w1 : (Jvm.Cond.methodLink own idx ⟨ad, "clone", "()Ljava/lang/Object;"⟩).before a0 Z = true) (w2 : (Jvm.Cond.sameMethod ad "java/lang/Object" "clone" "()Ljava/lang/Object;").before a0 Z = true) (w3 : (Jvm.Cond.native ⟨"java/lang/Object", "clone", "()Ljava/lang/Object;"⟩).before a0 Z = true)
    (w4 : (Jvm.Cond.instanceMethod ⟨"java/lang/Object", "clone", "()Ljava/lang/Object;"⟩).before a0 Z = true) (w5 : (Jvm.Cond.selects ad ⟨ad, "clone", "()Ljava/lang/Object;"⟩ ⟨"java/lang/Object", "clone", "()Ljava/lang/Object;"⟩).before a0 Z = true) (w6 : (Jvm.Cond.castable ad "java/lang/Cloneable").before a0 Z = true)
    (eT : T.heap = h) (F : Afi Z h a ty n g) (E : Exa Z h a ad) (hml : Ls.size = c.maxLocals) (hd : decode bs pc = .ok (.invokevirtual idx, 3)) (hf : 1 ≤ R.frames) (W : Nat) (hW : (st.map fun v => v.category).sum = W) (hl : W + 14 ≤ R.locals) (hcap : n ≤ cap) (hcl : cells + 1 ≤ R.cells) (hsl : slots + cap ≤ R.slots) (pc' : Nat) (hp : pc + 3 = pc')
    (k : ∀ T' h' (b : Addr), b = h.size → Stand p l e R s m args below meth c T' locs (cells + 1) (slots + cap) → T'.heap = h' → Ext h h' → Afi Z h' b ty n g → Exa Z h' b ad → Go p e below G T' (mkF m pc' Ls (.ref b :: st))) : Go p e below G T (mkF m pc Ls (.ref a :: st)) := by
  subst hp
  obtain ⟨cl, A, S, H⟩ := F
  have FC : FitC Z cl := fitC_of A fun i hi v hv => by rw [(H i (S ▸ hi)).1] at hv; cases hv; exact (H i (S ▸ hi)).2
  obtain ⟨T1, h1, X1, e1, E1, A1, Ex1, st1⟩ := cloneA X hx hZ hown w1 w2 w3 w4 w5 w6 eT A E FC (g := mkF m pc Ls (.ref a :: st)) rfl hml rfl (hb hby hd) hf (W := W) (by show 2 * 0 + _ ≤ _; omega) hl (cap := cap) (by rw [S]; exact hcap) hcl hsl
  exact Go.by (fun t q => st1 t q) (k T1 h1 _ rfl X1 e1 E1 ⟨_, A1, S, H⟩ Ex1)
theorem own_fld_start {t : Term} {C n d : String} {k : Int32} {a : Addr} (ev : t.eval args Z none [] Z = some (.ref a)) (hh : (Jvm.Cond.eq (.field t C n d) (.int k)).value args Z none Z [] = some true) : Fld Z Z.heap a C n d (.int k) := by
  obtain ⟨x, y, h1, h2, h3, h4⟩ := cmp_v (Or.inl hh)
  have h2' : y = .int k := (Option.some.inj h2).symm
  subst h2'
  obtain ⟨z, rfl⟩ := h4
  have q : z = k := by
    simp only [Cond.value, h1, h2] at hh
    exact of_decide_eq_true (Option.some.inj hh)
  subst q
  rw [fld_at ev] at h1
  exact Fld.start h1
end OwnGo

theorem d1_0 : decode prog_49_method_8_code 0 = .ok (.iload_n 1, 1) := by decide +kernel
theorem d1_1 : decode prog_49_method_8_code 1 = .ok (.aload_n 0, 1) := by decide +kernel
theorem d1_2 : decode prog_49_method_8_code 2 = .ok (.getfield 69, 3) := by decide +kernel
theorem d1_5 : decode prog_49_method_8_code 5 = .ok (.if_icmp .lt 15, 3) := by decide +kernel
theorem d1_8 : decode prog_49_method_8_code 8 = .ok (.iload_n 1, 1) := by decide +kernel
theorem d1_9 : decode prog_49_method_8_code 9 = .ok (.aload_n 0, 1) := by decide +kernel
theorem d1_10 : decode prog_49_method_8_code 10 = .ok (.getfield 72, 3) := by decide +kernel
theorem d1_13 : decode prog_49_method_8_code 13 = .ok (.if_icmp .gt 7, 3) := by decide +kernel
theorem d1_16 : decode prog_49_method_8_code 16 = .ok (.iconst 1, 1) := by decide +kernel
theorem d1_17 : decode prog_49_method_8_code 17 = .ok (.goto 4, 3) := by decide +kernel
theorem d1_20 : decode prog_49_method_8_code 20 = .ok (.iconst 0, 1) := by decide +kernel
theorem d1_21 : decode prog_49_method_8_code 21 = .ok (.ireturn, 1) := by decide +kernel
theorem pn_1 : plainName "com/example/enroll/enroll/wire/ApiKey" = true := by first | (simp [plainName, overriddenIn]; done) | decide +kernel
theorem pn_0 : plainName "com/example/enroll/enroll/wire/ApiKeySupportsPinLaw" = true := by first | (simp [plainName, overriddenIn]; done) | decide +kernel
theorem pd_0 : parseMethodDescriptor "(S)Z" = some ⟨[.short], some .boolean⟩ := by decide +kernel
theorem ef_1 (a1 : Addr) (p2 : Int32) (m : MethodId) : entryFrame m #[(.ref a1), (.int p2)] 2 = mkF m 0 #[.val (.ref a1), .val (.int p2)] [] := by first | (simp [entryFrame, mkF, argsToLocals, Value.category]; done) | rfl
def f1 (p2 : Int32) (w_minVersion_a1 : Int32) (w_maxVersion_a1 : Int32) : Int32 := (if p2 < w_minVersion_a1 then (0 : Int32) else (if w_maxVersion_a1 < p2 then (0 : Int32) else (1 : Int32)))
def Q1 (Z : State) (a1 : Addr) (p2 : Int32) (w_minVersion_a1 : Int32) (w_maxVersion_a1 : Int32) (h0 : Heap) (n0 : Nat) (v : Option Value) (h : Heap) (L : List Loc) : Prop := v = some (.int (f1 p2 w_minVersion_a1 w_maxVersion_a1)) ∧ Fr n0 L ∧ h = h0
set_option maxRecDepth 65536 in
set_option maxHeartbeats 40000000 in
theorem rm1 (l : Launch) (Z : State) (a0 : Array Value) (hw : ∀ d ∈ tables_1, d.before a0 Z = true) (a1 : Addr) (p2 : Int32) (w_minVersion_a1 : Int32) (w_maxVersion_a1 : Int32) (h0 : Heap) (n0 : Nat) (Zs : n0 ≤ h0.size) (F_minVersion_a1 : Fld Z h0 a1 "com/example/enroll/enroll/wire/ApiKey" "minVersion" "S" (.int w_minVersion_a1)) (F_maxVersion_a1 : Fld Z h0 a1 "com/example/enroll/enroll/wire/ApiKey" "maxVersion" "S" (.int w_maxVersion_a1)) :
    Met1 l Z (⟨"com/example/enroll/enroll/wire/ApiKey", "supports", "(S)Z"⟩ : MethodName) prog_49_method_8_code 2 (some .boolean) ({ frames := 0, cells := 0, slots := 0, locals := 0 } : Room) #[(.ref a1), (.int p2)] h0 (Q1 Z a1 p2 w_minVersion_a1 w_maxVersion_a1 h0 n0) := by
  refine own_met_of (plainFor_of_name pn_1) (ef_1 a1 p2) ?_
  intro p e s m below meth c s₁ X hx hby hml hZ hown hnm hret hlk eT
  have hown : s.vm.findClass "com/example/enroll/enroll/wire/ApiKey" = some m.cls := hown
  have N := Fr.nil n0
  refine own_iloadN X hx hby p2 d1_0 rfl 1 rfl ?_
  refine own_aloadN X hx hby (.ref a1) d1_1 rfl rfl 2 rfl ?_
  refine own_getF X hx hby hZ hown (host := "") (Or.inl (hw _ (List.mem_of_getElem? (i := 39) rfl))) Via.refl eT F_minVersion_a1 d1_2 5 rfl ?_
  intro T2 X eT
  refine own_icmp_lt X hx hby d1_5 20 8 (by decide) rfl (fun c5 => ?_) (fun c5 => ?_)
  · skip
    refine own_iconst X hx hby (0 : Int32) d1_20 rfl 21 rfl ?_
    refine own_retN X hx hby hret hlk (t := .boolean) (z' := (0 : Int32)) (by simp) d1_21 (by decide) (by decide) rfl ?_
    rw [eT]
    exact ⟨congrArg (fun z => some (Value.int z)) (by unfold f1; rw [if_pos c5]), N, rfl⟩
  · skip
    refine own_iloadN X hx hby p2 d1_8 rfl 9 rfl ?_
    refine own_aloadN X hx hby (.ref a1) d1_9 rfl rfl 10 rfl ?_
    refine own_getF X hx hby hZ hown (host := "") (Or.inl (hw _ (List.mem_of_getElem? (i := 41) rfl))) Via.refl eT F_maxVersion_a1 d1_10 13 rfl ?_
    intro T10 X eT
    refine own_icmp_gt X hx hby d1_13 20 16 (by decide) rfl (fun c13 => ?_) (fun c13 => ?_)
    · skip
      refine own_iconst X hx hby (0 : Int32) d1_20 rfl 21 rfl ?_
      refine own_retN X hx hby hret hlk (t := .boolean) (z' := (0 : Int32)) (by simp) d1_21 (by decide) (by decide) rfl ?_
      rw [eT]
      exact ⟨congrArg (fun z => some (Value.int z)) (by unfold f1; rw [if_neg c5, if_pos c13]), N, rfl⟩
    · skip
      refine own_iconst X hx hby (1 : Int32) d1_16 rfl 17 rfl ?_
      refine own_goto X hx hby d1_17 21 (by decide) ?_
      refine own_retN X hx hby hret hlk (t := .boolean) (z' := (1 : Int32)) (by simp) d1_21 (by decide) (by decide) rfl ?_
      rw [eT]
      exact ⟨congrArg (fun z => some (Value.int z)) (by unfold f1; rw [if_neg c5, if_neg c13]), N, rfl⟩
theorem ef_0 (p1 : Int32) (p2 : Int32) (p3 : Int32) (m : MethodId) : entryFrame m #[(.int p1), (.int p2), (.int p3)] maxLocals = mkF m 0 #[.val (.int p1), .val (.int p2), .val (.int p3), .unset, .unset, .unset, .unset, .unset, .unset, .unset, .unset, .unset] [] := by first | (simp [entryFrame, mkF, argsToLocals, Value.category, maxLocals]; done) | rfl
def Q0 (Z : State) (p1 : Int32) (p2 : Int32) (p3 : Int32) (u_PRODUCE : Addr) (u_FETCH : Addr) (u_LIST_OFFSETS : Addr) (u_METADATA : Addr) (u_OFFSET_COMMIT : Addr) (u_OFFSET_FETCH : Addr) (u_FIND_COORDINATOR : Addr) (u_JOIN_GROUP : Addr) (u_HEARTBEAT : Addr) (u_LEAVE_GROUP : Addr) (u_SYNC_GROUP : Addr) (u_DESCRIBE_GROUPS : Addr) (u_LIST_GROUPS : Addr) (u_API_VERSIONS : Addr) (h0 : Heap) (n0 : Nat) (v : Option Value) (h : Heap) (L : List Loc) : Prop := v = some (.int (1 : Int32)) ∧ Fr n0 L
theorem own_split (z v : Int32) (e : ((z &&& (2147483647 : Int32)) % (14 : Int32)) = v) : v = (0 : Int32) ∨ v = (1 : Int32) ∨ v = (2 : Int32) ∨ v = (3 : Int32) ∨ v = (4 : Int32) ∨ v = (5 : Int32) ∨ v = (6 : Int32) ∨ v = (7 : Int32) ∨ v = (8 : Int32) ∨ v = (9 : Int32) ∨ v = (10 : Int32) ∨ v = (11 : Int32) ∨ v = (12 : Int32) ∨ v = (13 : Int32) := by
  have h := c_mask z (2147483647 : Int32) 31 (by decide) (by decide)
  have h1 := c_irem (z &&& (2147483647 : Int32)) (14 : Int32) 14 (by decide)
  rw [e] at h1
  have h2 := h1.1 (by omega)
  simp only [← Int32.toInt_inj, Int32.reduceToInt]
  omega
theorem own_short (j : Int32) (h0 : -32768 ≤ j.toInt) (h1 : j.toInt < 32768) : j.toInt16.toInt32 = j := by
  have h := c_i2s j
  rw [← Int32.toInt_inj]
  omega
theorem own_v (z p mn mx m o j v : Int32) (eo : ((z &&& (3 : Int32)) - (1 : Int32)) = o) (hmn : 0 ≤ mn.toInt ∧ mn.toInt < 100) (hmx : 0 ≤ mx.toInt ∧ mx.toInt < 100) (ej : j = (if m = (1 : Int32) then (mn + o) else (if m = (2 : Int32) then (mx + o) else (p.toInt16.toInt32)))) (ev : (j.toInt16.toInt32) = v) (r : Int32)
    (er : r = (if j < mn then (0 : Int32) else (if mx < j then (0 : Int32) else (1 : Int32)))) : f1 v mn mx = r := by
  have a1 := c_mask z (3 : Int32) 2 (by decide) (by decide)
  have a2 := c_isub (z &&& (3 : Int32)) (1 : Int32)
  have a3 := rng32 o
  rw [eo] at a2
  simp only [Int32.reduceToInt] at a2
  have a4 := c_iadd mn o
  have a5 := rng32 (mn + o)
  have a6 := c_iadd mx o
  have a7 := rng32 (mx + o)
  have a8 := c_i2s p
  have b : j.toInt16.toInt32 = j := by
    apply own_short
    · rw [ej]; repeat' split
      all_goals omega
    · rw [ej]; repeat' split
      all_goals omega
  rw [← ev, b, er]
  rfl
set_option maxRecDepth 65536 in
set_option maxHeartbeats 40000000 in
theorem rm0 (l : Launch) (Z : State) (a0 : Array Value) (hw : ∀ d ∈ tables_1, d.before a0 Z = true) (p1 : Int32) (p2 : Int32) (p3 : Int32) (u_PRODUCE : Addr) (u_FETCH : Addr) (u_LIST_OFFSETS : Addr) (u_METADATA : Addr) (u_OFFSET_COMMIT : Addr) (u_OFFSET_FETCH : Addr) (u_FIND_COORDINATOR : Addr) (u_JOIN_GROUP : Addr) (u_HEARTBEAT : Addr) (u_LEAVE_GROUP : Addr) (u_SYNC_GROUP : Addr) (u_DESCRIBE_GROUPS : Addr) (u_LIST_GROUPS : Addr) (u_API_VERSIONS : Addr) (h0 : Heap) (n0 : Nat) (Zs : n0 ≤ h0.size) (S_PRODUCE : Sta Z h0 "com/example/enroll/enroll/wire/ApiKey" "PRODUCE" "Lcom/example/enroll/enroll/wire/ApiKey;" (.ref u_PRODUCE)) (S_FETCH : Sta Z h0 "com/example/enroll/enroll/wire/ApiKey" "FETCH" "Lcom/example/enroll/enroll/wire/ApiKey;" (.ref u_FETCH)) (S_LIST_OFFSETS : Sta Z h0 "com/example/enroll/enroll/wire/ApiKey" "LIST_OFFSETS" "Lcom/example/enroll/enroll/wire/ApiKey;" (.ref u_LIST_OFFSETS)) (S_METADATA : Sta Z h0 "com/example/enroll/enroll/wire/ApiKey" "METADATA" "Lcom/example/enroll/enroll/wire/ApiKey;" (.ref u_METADATA)) (S_OFFSET_COMMIT : Sta Z h0 "com/example/enroll/enroll/wire/ApiKey" "OFFSET_COMMIT" "Lcom/example/enroll/enroll/wire/ApiKey;" (.ref u_OFFSET_COMMIT)) (S_OFFSET_FETCH : Sta Z h0 "com/example/enroll/enroll/wire/ApiKey" "OFFSET_FETCH" "Lcom/example/enroll/enroll/wire/ApiKey;" (.ref u_OFFSET_FETCH)) (S_FIND_COORDINATOR : Sta Z h0 "com/example/enroll/enroll/wire/ApiKey" "FIND_COORDINATOR" "Lcom/example/enroll/enroll/wire/ApiKey;" (.ref u_FIND_COORDINATOR)) (S_JOIN_GROUP : Sta Z h0 "com/example/enroll/enroll/wire/ApiKey" "JOIN_GROUP" "Lcom/example/enroll/enroll/wire/ApiKey;" (.ref u_JOIN_GROUP)) (S_HEARTBEAT : Sta Z h0 "com/example/enroll/enroll/wire/ApiKey" "HEARTBEAT" "Lcom/example/enroll/enroll/wire/ApiKey;" (.ref u_HEARTBEAT)) (S_LEAVE_GROUP : Sta Z h0 "com/example/enroll/enroll/wire/ApiKey" "LEAVE_GROUP" "Lcom/example/enroll/enroll/wire/ApiKey;" (.ref u_LEAVE_GROUP)) (S_SYNC_GROUP : Sta Z h0 "com/example/enroll/enroll/wire/ApiKey" "SYNC_GROUP" "Lcom/example/enroll/enroll/wire/ApiKey;" (.ref u_SYNC_GROUP)) (S_DESCRIBE_GROUPS : Sta Z h0 "com/example/enroll/enroll/wire/ApiKey" "DESCRIBE_GROUPS" "Lcom/example/enroll/enroll/wire/ApiKey;" (.ref u_DESCRIBE_GROUPS)) (S_LIST_GROUPS : Sta Z h0 "com/example/enroll/enroll/wire/ApiKey" "LIST_GROUPS" "Lcom/example/enroll/enroll/wire/ApiKey;" (.ref u_LIST_GROUPS)) (S_API_VERSIONS : Sta Z h0 "com/example/enroll/enroll/wire/ApiKey" "API_VERSIONS" "Lcom/example/enroll/enroll/wire/ApiKey;" (.ref u_API_VERSIONS)) (E_u_PRODUCE : Exa Z h0 u_PRODUCE "com/example/enroll/enroll/wire/ApiKey") (E_u_FETCH : Exa Z h0 u_FETCH "com/example/enroll/enroll/wire/ApiKey") (E_u_LIST_OFFSETS : Exa Z h0 u_LIST_OFFSETS "com/example/enroll/enroll/wire/ApiKey") (E_u_METADATA : Exa Z h0 u_METADATA "com/example/enroll/enroll/wire/ApiKey") (E_u_OFFSET_COMMIT : Exa Z h0 u_OFFSET_COMMIT "com/example/enroll/enroll/wire/ApiKey") (E_u_OFFSET_FETCH : Exa Z h0 u_OFFSET_FETCH "com/example/enroll/enroll/wire/ApiKey") (E_u_FIND_COORDINATOR : Exa Z h0 u_FIND_COORDINATOR "com/example/enroll/enroll/wire/ApiKey") (E_u_JOIN_GROUP : Exa Z h0 u_JOIN_GROUP "com/example/enroll/enroll/wire/ApiKey") (E_u_HEARTBEAT : Exa Z h0 u_HEARTBEAT "com/example/enroll/enroll/wire/ApiKey") (E_u_LEAVE_GROUP : Exa Z h0 u_LEAVE_GROUP "com/example/enroll/enroll/wire/ApiKey") (E_u_SYNC_GROUP : Exa Z h0 u_SYNC_GROUP "com/example/enroll/enroll/wire/ApiKey") (E_u_DESCRIBE_GROUPS : Exa Z h0 u_DESCRIBE_GROUPS "com/example/enroll/enroll/wire/ApiKey") (E_u_LIST_GROUPS : Exa Z h0 u_LIST_GROUPS "com/example/enroll/enroll/wire/ApiKey") (E_u_API_VERSIONS : Exa Z h0 u_API_VERSIONS "com/example/enroll/enroll/wire/ApiKey") (F_minVersion_u_PRODUCE : Fld Z h0 u_PRODUCE "com/example/enroll/enroll/wire/ApiKey" "minVersion" "S" (.int (3 : Int32))) (F_maxVersion_u_PRODUCE : Fld Z h0 u_PRODUCE "com/example/enroll/enroll/wire/ApiKey" "maxVersion" "S" (.int (7 : Int32))) (F_minVersion_u_FETCH : Fld Z h0 u_FETCH "com/example/enroll/enroll/wire/ApiKey" "minVersion" "S" (.int (4 : Int32))) (F_maxVersion_u_FETCH : Fld Z h0 u_FETCH "com/example/enroll/enroll/wire/ApiKey" "maxVersion" "S" (.int (11 : Int32))) (F_minVersion_u_LIST_OFFSETS : Fld Z h0 u_LIST_OFFSETS "com/example/enroll/enroll/wire/ApiKey" "minVersion" "S" (.int (1 : Int32))) (F_maxVersion_u_LIST_OFFSETS : Fld Z h0 u_LIST_OFFSETS "com/example/enroll/enroll/wire/ApiKey" "maxVersion" "S" (.int (2 : Int32))) (F_minVersion_u_METADATA : Fld Z h0 u_METADATA "com/example/enroll/enroll/wire/ApiKey" "minVersion" "S" (.int (0 : Int32))) (F_maxVersion_u_METADATA : Fld Z h0 u_METADATA "com/example/enroll/enroll/wire/ApiKey" "maxVersion" "S" (.int (4 : Int32))) (F_minVersion_u_OFFSET_COMMIT : Fld Z h0 u_OFFSET_COMMIT "com/example/enroll/enroll/wire/ApiKey" "minVersion" "S" (.int (2 : Int32))) (F_maxVersion_u_OFFSET_COMMIT : Fld Z h0 u_OFFSET_COMMIT "com/example/enroll/enroll/wire/ApiKey" "maxVersion" "S" (.int (7 : Int32))) (F_minVersion_u_OFFSET_FETCH : Fld Z h0 u_OFFSET_FETCH "com/example/enroll/enroll/wire/ApiKey" "minVersion" "S" (.int (1 : Int32))) (F_maxVersion_u_OFFSET_FETCH : Fld Z h0 u_OFFSET_FETCH "com/example/enroll/enroll/wire/ApiKey" "maxVersion" "S" (.int (7 : Int32))) (F_minVersion_u_FIND_COORDINATOR : Fld Z h0 u_FIND_COORDINATOR "com/example/enroll/enroll/wire/ApiKey" "minVersion" "S" (.int (0 : Int32))) (F_maxVersion_u_FIND_COORDINATOR : Fld Z h0 u_FIND_COORDINATOR "com/example/enroll/enroll/wire/ApiKey" "maxVersion" "S" (.int (2 : Int32))) (F_minVersion_u_JOIN_GROUP : Fld Z h0 u_JOIN_GROUP "com/example/enroll/enroll/wire/ApiKey" "minVersion" "S" (.int (0 : Int32))) (F_maxVersion_u_JOIN_GROUP : Fld Z h0 u_JOIN_GROUP "com/example/enroll/enroll/wire/ApiKey" "maxVersion" "S" (.int (5 : Int32))) (F_minVersion_u_HEARTBEAT : Fld Z h0 u_HEARTBEAT "com/example/enroll/enroll/wire/ApiKey" "minVersion" "S" (.int (0 : Int32))) (F_maxVersion_u_HEARTBEAT : Fld Z h0 u_HEARTBEAT "com/example/enroll/enroll/wire/ApiKey" "maxVersion" "S" (.int (3 : Int32))) (F_minVersion_u_LEAVE_GROUP : Fld Z h0 u_LEAVE_GROUP "com/example/enroll/enroll/wire/ApiKey" "minVersion" "S" (.int (0 : Int32))) (F_maxVersion_u_LEAVE_GROUP : Fld Z h0 u_LEAVE_GROUP "com/example/enroll/enroll/wire/ApiKey" "maxVersion" "S" (.int (3 : Int32))) (F_minVersion_u_SYNC_GROUP : Fld Z h0 u_SYNC_GROUP "com/example/enroll/enroll/wire/ApiKey" "minVersion" "S" (.int (0 : Int32))) (F_maxVersion_u_SYNC_GROUP : Fld Z h0 u_SYNC_GROUP "com/example/enroll/enroll/wire/ApiKey" "maxVersion" "S" (.int (3 : Int32))) (F_minVersion_u_DESCRIBE_GROUPS : Fld Z h0 u_DESCRIBE_GROUPS "com/example/enroll/enroll/wire/ApiKey" "minVersion" "S" (.int (0 : Int32))) (F_maxVersion_u_DESCRIBE_GROUPS : Fld Z h0 u_DESCRIBE_GROUPS "com/example/enroll/enroll/wire/ApiKey" "maxVersion" "S" (.int (4 : Int32))) (F_minVersion_u_LIST_GROUPS : Fld Z h0 u_LIST_GROUPS "com/example/enroll/enroll/wire/ApiKey" "minVersion" "S" (.int (0 : Int32))) (F_maxVersion_u_LIST_GROUPS : Fld Z h0 u_LIST_GROUPS "com/example/enroll/enroll/wire/ApiKey" "maxVersion" "S" (.int (2 : Int32))) (F_minVersion_u_API_VERSIONS : Fld Z h0 u_API_VERSIONS "com/example/enroll/enroll/wire/ApiKey" "minVersion" "S" (.int (0 : Int32))) (F_maxVersion_u_API_VERSIONS : Fld Z h0 u_API_VERSIONS "com/example/enroll/enroll/wire/ApiKey" "maxVersion" "S" (.int (4 : Int32))) :
    Met1 l Z x code maxLocals ret room_1 #[(.int p1), (.int p2), (.int p3)] h0 (Q0 Z p1 p2 p3 u_PRODUCE u_FETCH u_LIST_OFFSETS u_METADATA u_OFFSET_COMMIT u_OFFSET_FETCH u_FIND_COORDINATOR u_JOIN_GROUP u_HEARTBEAT u_LEAVE_GROUP u_SYNC_GROUP u_DESCRIBE_GROUPS u_LIST_GROUPS u_API_VERSIONS h0 n0) := by
  refine own_met_of (plainFor_of_name pn_0) (ef_0 p1 p2 p3) ?_
  intro p e s m below meth c s₁ X hx hby hml hZ hown hnm hret hlk eT
  have hown : s.vm.findClass "com/example/enroll/enroll/wire/ApiKeySupportsPinLaw" = some m.cls := hown
  have N := Fr.nil n0
  have K := Keep.refl h0 []
  refine own_bipush X hx hby (14 : Int32) at_0 rfl 2 rfl ?_
  refine own_anewarray X hx hby hZ hown (hw _ (List.mem_of_getElem? (i := 0) rfl)) (hw _ (List.mem_of_getElem? (i := 1) rfl)) eT at_2 (z := (14 : Int32)) (by decide) (n := 14) rfl (cap := 14) (by decide) (by decide) (by decide) (by decide) (ad := "[Lcom/example/enroll/enroll/wire/ApiKey;") rfl 5 rfl ?_
  intro T2 h2 b2 cA gb2 X eT Ex A A2 A3 Ov
  have g_b2 : n0 ≤ b2 := by rw [gb2]; exact Zs
  have sz_b2 : h0.size ≤ b2 := by rw [gb2]; exact K.1
  have A_b2 : Afn Z h2 b2 (.object "com/example/enroll/enroll/wire/ApiKey") 14 (fun _ => .null) := A
  have E_b2 := A2
  have O_b2 : Orr Z h2 b2 "com/example/enroll/enroll/wire/ApiKey" := ⟨_, cA, A3, rfl, Ov⟩
  have K := K.ext Ex
  have Zs := Nat.le_trans Zs Ex.1
  refine own_dup X hx hby at_5 rfl 6 rfl ?_
  refine own_iconst X hx hby (0 : Int32) at_6 rfl 7 rfl ?_
  refine own_getS X hx hby hZ hown (host := "") (Or.inl (hw _ (List.mem_of_getElem? (i := 2) rfl))) Via.refl eT (S_PRODUCE.ext (own_ext0 K)) at_7 10 rfl ?_
  intro T7 X eT
  refine own_aastore X hx hby hZ eT A_b2 (by decide) rfl rfl (O_b2.sto (Ins.self (E_u_PRODUCE.ext (own_ext0 K)))) at_10 11 rfl ?_
  intro T10 h10 X eT W A
  have E_b2 := E_b2.wr W
  have O_b2 := O_b2.wr W
  have A_b2 : Afn Z h10 b2 (.object "com/example/enroll/enroll/wire/ApiKey") 14 (upd (fun _ => .null) 0 (.ref u_PRODUCE)) := A
  have N := Fr.snoc X N g_b2
  have K := K.wr W (Or.inr sz_b2)
  have Zs := Nat.le_trans Zs (Keep.of_wr W).1
  refine own_dup X hx hby at_11 rfl 12 rfl ?_
  refine own_iconst X hx hby (1 : Int32) at_12 rfl 13 rfl ?_
  refine own_getS X hx hby hZ hown (host := "") (Or.inl (hw _ (List.mem_of_getElem? (i := 6) rfl))) Via.refl eT (S_FETCH.ext (own_ext0 K)) at_13 16 rfl ?_
  intro T13 X eT
  refine own_aastore X hx hby hZ eT A_b2 (by decide) rfl rfl (O_b2.sto (Ins.self (E_u_FETCH.ext (own_ext0 K)))) at_16 17 rfl ?_
  intro T16 h16 X eT W A
  have E_b2 := E_b2.wr W
  have O_b2 := O_b2.wr W
  have A_b2 : Afn Z h16 b2 (.object "com/example/enroll/enroll/wire/ApiKey") 14 (upd (upd (fun _ => .null) 0 (.ref u_PRODUCE)) 1 (.ref u_FETCH)) := A
  have N := Fr.snoc X N g_b2
  have K := K.wr W (Or.inr sz_b2)
  have Zs := Nat.le_trans Zs (Keep.of_wr W).1
  refine own_dup X hx hby at_17 rfl 18 rfl ?_
  refine own_iconst X hx hby (2 : Int32) at_18 rfl 19 rfl ?_
  refine own_getS X hx hby hZ hown (host := "") (Or.inl (hw _ (List.mem_of_getElem? (i := 8) rfl))) Via.refl eT (S_LIST_OFFSETS.ext (own_ext0 K)) at_19 22 rfl ?_
  intro T19 X eT
  refine own_aastore X hx hby hZ eT A_b2 (by decide) rfl rfl (O_b2.sto (Ins.self (E_u_LIST_OFFSETS.ext (own_ext0 K)))) at_22 23 rfl ?_
  intro T22 h22 X eT W A
  have E_b2 := E_b2.wr W
  have O_b2 := O_b2.wr W
  have A_b2 : Afn Z h22 b2 (.object "com/example/enroll/enroll/wire/ApiKey") 14 (upd (upd (upd (fun _ => .null) 0 (.ref u_PRODUCE)) 1 (.ref u_FETCH)) 2 (.ref u_LIST_OFFSETS)) := A
  have N := Fr.snoc X N g_b2
  have K := K.wr W (Or.inr sz_b2)
  have Zs := Nat.le_trans Zs (Keep.of_wr W).1
  refine own_dup X hx hby at_23 rfl 24 rfl ?_
  refine own_iconst X hx hby (3 : Int32) at_24 rfl 25 rfl ?_
  refine own_getS X hx hby hZ hown (host := "") (Or.inl (hw _ (List.mem_of_getElem? (i := 10) rfl))) Via.refl eT (S_METADATA.ext (own_ext0 K)) at_25 28 rfl ?_
  intro T25 X eT
  refine own_aastore X hx hby hZ eT A_b2 (by decide) rfl rfl (O_b2.sto (Ins.self (E_u_METADATA.ext (own_ext0 K)))) at_28 29 rfl ?_
  intro T28 h28 X eT W A
  have E_b2 := E_b2.wr W
  have O_b2 := O_b2.wr W
  have A_b2 : Afn Z h28 b2 (.object "com/example/enroll/enroll/wire/ApiKey") 14 (upd (upd (upd (upd (fun _ => .null) 0 (.ref u_PRODUCE)) 1 (.ref u_FETCH)) 2 (.ref u_LIST_OFFSETS)) 3 (.ref u_METADATA)) := A
  have N := Fr.snoc X N g_b2
  have K := K.wr W (Or.inr sz_b2)
  have Zs := Nat.le_trans Zs (Keep.of_wr W).1
  refine own_dup X hx hby at_29 rfl 30 rfl ?_
  refine own_iconst X hx hby (4 : Int32) at_30 rfl 31 rfl ?_
  refine own_getS X hx hby hZ hown (host := "") (Or.inl (hw _ (List.mem_of_getElem? (i := 12) rfl))) Via.refl eT (S_OFFSET_COMMIT.ext (own_ext0 K)) at_31 34 rfl ?_
  intro T31 X eT
  refine own_aastore X hx hby hZ eT A_b2 (by decide) rfl rfl (O_b2.sto (Ins.self (E_u_OFFSET_COMMIT.ext (own_ext0 K)))) at_34 35 rfl ?_
  intro T34 h34 X eT W A
  have E_b2 := E_b2.wr W
  have O_b2 := O_b2.wr W
  have A_b2 : Afn Z h34 b2 (.object "com/example/enroll/enroll/wire/ApiKey") 14 (upd (upd (upd (upd (upd (fun _ => .null) 0 (.ref u_PRODUCE)) 1 (.ref u_FETCH)) 2 (.ref u_LIST_OFFSETS)) 3 (.ref u_METADATA)) 4 (.ref u_OFFSET_COMMIT)) := A
  have N := Fr.snoc X N g_b2
  have K := K.wr W (Or.inr sz_b2)
  have Zs := Nat.le_trans Zs (Keep.of_wr W).1
  refine own_dup X hx hby at_35 rfl 36 rfl ?_
  refine own_iconst X hx hby (5 : Int32) at_36 rfl 37 rfl ?_
  refine own_getS X hx hby hZ hown (host := "") (Or.inl (hw _ (List.mem_of_getElem? (i := 14) rfl))) Via.refl eT (S_OFFSET_FETCH.ext (own_ext0 K)) at_37 40 rfl ?_
  intro T37 X eT
  refine own_aastore X hx hby hZ eT A_b2 (by decide) rfl rfl (O_b2.sto (Ins.self (E_u_OFFSET_FETCH.ext (own_ext0 K)))) at_40 41 rfl ?_
  intro T40 h40 X eT W A
  have E_b2 := E_b2.wr W
  have O_b2 := O_b2.wr W
  have A_b2 : Afn Z h40 b2 (.object "com/example/enroll/enroll/wire/ApiKey") 14 (upd (upd (upd (upd (upd (upd (fun _ => .null) 0 (.ref u_PRODUCE)) 1 (.ref u_FETCH)) 2 (.ref u_LIST_OFFSETS)) 3 (.ref u_METADATA)) 4 (.ref u_OFFSET_COMMIT)) 5 (.ref u_OFFSET_FETCH)) := A
  have N := Fr.snoc X N g_b2
  have K := K.wr W (Or.inr sz_b2)
  have Zs := Nat.le_trans Zs (Keep.of_wr W).1
  refine own_dup X hx hby at_41 rfl 42 rfl ?_
  refine own_bipush X hx hby (6 : Int32) at_42 rfl 44 rfl ?_
  refine own_getS X hx hby hZ hown (host := "") (Or.inl (hw _ (List.mem_of_getElem? (i := 16) rfl))) Via.refl eT (S_FIND_COORDINATOR.ext (own_ext0 K)) at_44 47 rfl ?_
  intro T44 X eT
  refine own_aastore X hx hby hZ eT A_b2 (by decide) rfl rfl (O_b2.sto (Ins.self (E_u_FIND_COORDINATOR.ext (own_ext0 K)))) at_47 48 rfl ?_
  intro T47 h47 X eT W A
  have E_b2 := E_b2.wr W
  have O_b2 := O_b2.wr W
  have A_b2 : Afn Z h47 b2 (.object "com/example/enroll/enroll/wire/ApiKey") 14 (upd (upd (upd (upd (upd (upd (upd (fun _ => .null) 0 (.ref u_PRODUCE)) 1 (.ref u_FETCH)) 2 (.ref u_LIST_OFFSETS)) 3 (.ref u_METADATA)) 4 (.ref u_OFFSET_COMMIT)) 5 (.ref u_OFFSET_FETCH)) 6 (.ref u_FIND_COORDINATOR)) := A
  have N := Fr.snoc X N g_b2
  have K := K.wr W (Or.inr sz_b2)
  have Zs := Nat.le_trans Zs (Keep.of_wr W).1
  refine own_dup X hx hby at_48 rfl 49 rfl ?_
  refine own_bipush X hx hby (7 : Int32) at_49 rfl 51 rfl ?_
  refine own_getS X hx hby hZ hown (host := "") (Or.inl (hw _ (List.mem_of_getElem? (i := 18) rfl))) Via.refl eT (S_JOIN_GROUP.ext (own_ext0 K)) at_51 54 rfl ?_
  intro T51 X eT
  refine own_aastore X hx hby hZ eT A_b2 (by decide) rfl rfl (O_b2.sto (Ins.self (E_u_JOIN_GROUP.ext (own_ext0 K)))) at_54 55 rfl ?_
  intro T54 h54 X eT W A
  have E_b2 := E_b2.wr W
  have O_b2 := O_b2.wr W
  have A_b2 : Afn Z h54 b2 (.object "com/example/enroll/enroll/wire/ApiKey") 14 (upd (upd (upd (upd (upd (upd (upd (upd (fun _ => .null) 0 (.ref u_PRODUCE)) 1 (.ref u_FETCH)) 2 (.ref u_LIST_OFFSETS)) 3 (.ref u_METADATA)) 4 (.ref u_OFFSET_COMMIT)) 5 (.ref u_OFFSET_FETCH)) 6 (.ref u_FIND_COORDINATOR)) 7 (.ref u_JOIN_GROUP)) := A
  have N := Fr.snoc X N g_b2
  have K := K.wr W (Or.inr sz_b2)
  have Zs := Nat.le_trans Zs (Keep.of_wr W).1
  refine own_dup X hx hby at_55 rfl 56 rfl ?_
  refine own_bipush X hx hby (8 : Int32) at_56 rfl 58 rfl ?_
  refine own_getS X hx hby hZ hown (host := "") (Or.inl (hw _ (List.mem_of_getElem? (i := 20) rfl))) Via.refl eT (S_HEARTBEAT.ext (own_ext0 K)) at_58 61 rfl ?_
  intro T58 X eT
  refine own_aastore X hx hby hZ eT A_b2 (by decide) rfl rfl (O_b2.sto (Ins.self (E_u_HEARTBEAT.ext (own_ext0 K)))) at_61 62 rfl ?_
  intro T61 h61 X eT W A
  have E_b2 := E_b2.wr W
  have O_b2 := O_b2.wr W
  have A_b2 : Afn Z h61 b2 (.object "com/example/enroll/enroll/wire/ApiKey") 14 (upd (upd (upd (upd (upd (upd (upd (upd (upd (fun _ => .null) 0 (.ref u_PRODUCE)) 1 (.ref u_FETCH)) 2 (.ref u_LIST_OFFSETS)) 3 (.ref u_METADATA)) 4 (.ref u_OFFSET_COMMIT)) 5 (.ref u_OFFSET_FETCH)) 6 (.ref u_FIND_COORDINATOR)) 7 (.ref u_JOIN_GROUP)) 8 (.ref u_HEARTBEAT)) := A
  have N := Fr.snoc X N g_b2
  have K := K.wr W (Or.inr sz_b2)
  have Zs := Nat.le_trans Zs (Keep.of_wr W).1
  refine own_dup X hx hby at_62 rfl 63 rfl ?_
  refine own_bipush X hx hby (9 : Int32) at_63 rfl 65 rfl ?_
  refine own_getS X hx hby hZ hown (host := "") (Or.inl (hw _ (List.mem_of_getElem? (i := 22) rfl))) Via.refl eT (S_LEAVE_GROUP.ext (own_ext0 K)) at_65 68 rfl ?_
  intro T65 X eT
  refine own_aastore X hx hby hZ eT A_b2 (by decide) rfl rfl (O_b2.sto (Ins.self (E_u_LEAVE_GROUP.ext (own_ext0 K)))) at_68 69 rfl ?_
  intro T68 h68 X eT W A
  have E_b2 := E_b2.wr W
  have O_b2 := O_b2.wr W
  have A_b2 : Afn Z h68 b2 (.object "com/example/enroll/enroll/wire/ApiKey") 14 (upd (upd (upd (upd (upd (upd (upd (upd (upd (upd (fun _ => .null) 0 (.ref u_PRODUCE)) 1 (.ref u_FETCH)) 2 (.ref u_LIST_OFFSETS)) 3 (.ref u_METADATA)) 4 (.ref u_OFFSET_COMMIT)) 5 (.ref u_OFFSET_FETCH)) 6 (.ref u_FIND_COORDINATOR)) 7 (.ref u_JOIN_GROUP)) 8 (.ref u_HEARTBEAT)) 9 (.ref u_LEAVE_GROUP)) := A
  have N := Fr.snoc X N g_b2
  have K := K.wr W (Or.inr sz_b2)
  have Zs := Nat.le_trans Zs (Keep.of_wr W).1
  refine own_dup X hx hby at_69 rfl 70 rfl ?_
  refine own_bipush X hx hby (10 : Int32) at_70 rfl 72 rfl ?_
  refine own_getS X hx hby hZ hown (host := "") (Or.inl (hw _ (List.mem_of_getElem? (i := 24) rfl))) Via.refl eT (S_SYNC_GROUP.ext (own_ext0 K)) at_72 75 rfl ?_
  intro T72 X eT
  refine own_aastore X hx hby hZ eT A_b2 (by decide) rfl rfl (O_b2.sto (Ins.self (E_u_SYNC_GROUP.ext (own_ext0 K)))) at_75 76 rfl ?_
  intro T75 h75 X eT W A
  have E_b2 := E_b2.wr W
  have O_b2 := O_b2.wr W
  have A_b2 : Afn Z h75 b2 (.object "com/example/enroll/enroll/wire/ApiKey") 14 (upd (upd (upd (upd (upd (upd (upd (upd (upd (upd (upd (fun _ => .null) 0 (.ref u_PRODUCE)) 1 (.ref u_FETCH)) 2 (.ref u_LIST_OFFSETS)) 3 (.ref u_METADATA)) 4 (.ref u_OFFSET_COMMIT)) 5 (.ref u_OFFSET_FETCH)) 6 (.ref u_FIND_COORDINATOR)) 7 (.ref u_JOIN_GROUP)) 8 (.ref u_HEARTBEAT)) 9 (.ref u_LEAVE_GROUP)) 10 (.ref u_SYNC_GROUP)) := A
  have N := Fr.snoc X N g_b2
  have K := K.wr W (Or.inr sz_b2)
  have Zs := Nat.le_trans Zs (Keep.of_wr W).1
  refine own_dup X hx hby at_76 rfl 77 rfl ?_
  refine own_bipush X hx hby (11 : Int32) at_77 rfl 79 rfl ?_
  refine own_getS X hx hby hZ hown (host := "") (Or.inl (hw _ (List.mem_of_getElem? (i := 26) rfl))) Via.refl eT (S_DESCRIBE_GROUPS.ext (own_ext0 K)) at_79 82 rfl ?_
  intro T79 X eT
  refine own_aastore X hx hby hZ eT A_b2 (by decide) rfl rfl (O_b2.sto (Ins.self (E_u_DESCRIBE_GROUPS.ext (own_ext0 K)))) at_82 83 rfl ?_
  intro T82 h82 X eT W A
  have E_b2 := E_b2.wr W
  have O_b2 := O_b2.wr W
  have A_b2 : Afn Z h82 b2 (.object "com/example/enroll/enroll/wire/ApiKey") 14 (upd (upd (upd (upd (upd (upd (upd (upd (upd (upd (upd (upd (fun _ => .null) 0 (.ref u_PRODUCE)) 1 (.ref u_FETCH)) 2 (.ref u_LIST_OFFSETS)) 3 (.ref u_METADATA)) 4 (.ref u_OFFSET_COMMIT)) 5 (.ref u_OFFSET_FETCH)) 6 (.ref u_FIND_COORDINATOR)) 7 (.ref u_JOIN_GROUP)) 8 (.ref u_HEARTBEAT)) 9 (.ref u_LEAVE_GROUP)) 10 (.ref u_SYNC_GROUP)) 11 (.ref u_DESCRIBE_GROUPS)) := A
  have N := Fr.snoc X N g_b2
  have K := K.wr W (Or.inr sz_b2)
  have Zs := Nat.le_trans Zs (Keep.of_wr W).1
  refine own_dup X hx hby at_83 rfl 84 rfl ?_
  refine own_bipush X hx hby (12 : Int32) at_84 rfl 86 rfl ?_
  refine own_getS X hx hby hZ hown (host := "") (Or.inl (hw _ (List.mem_of_getElem? (i := 28) rfl))) Via.refl eT (S_LIST_GROUPS.ext (own_ext0 K)) at_86 89 rfl ?_
  intro T86 X eT
  refine own_aastore X hx hby hZ eT A_b2 (by decide) rfl rfl (O_b2.sto (Ins.self (E_u_LIST_GROUPS.ext (own_ext0 K)))) at_89 90 rfl ?_
  intro T89 h89 X eT W A
  have E_b2 := E_b2.wr W
  have O_b2 := O_b2.wr W
  have A_b2 : Afn Z h89 b2 (.object "com/example/enroll/enroll/wire/ApiKey") 14 (upd (upd (upd (upd (upd (upd (upd (upd (upd (upd (upd (upd (upd (fun _ => .null) 0 (.ref u_PRODUCE)) 1 (.ref u_FETCH)) 2 (.ref u_LIST_OFFSETS)) 3 (.ref u_METADATA)) 4 (.ref u_OFFSET_COMMIT)) 5 (.ref u_OFFSET_FETCH)) 6 (.ref u_FIND_COORDINATOR)) 7 (.ref u_JOIN_GROUP)) 8 (.ref u_HEARTBEAT)) 9 (.ref u_LEAVE_GROUP)) 10 (.ref u_SYNC_GROUP)) 11 (.ref u_DESCRIBE_GROUPS)) 12 (.ref u_LIST_GROUPS)) := A
  have N := Fr.snoc X N g_b2
  have K := K.wr W (Or.inr sz_b2)
  have Zs := Nat.le_trans Zs (Keep.of_wr W).1
  refine own_dup X hx hby at_90 rfl 91 rfl ?_
  refine own_bipush X hx hby (13 : Int32) at_91 rfl 93 rfl ?_
  refine own_getS X hx hby hZ hown (host := "") (Or.inl (hw _ (List.mem_of_getElem? (i := 30) rfl))) Via.refl eT (S_API_VERSIONS.ext (own_ext0 K)) at_93 96 rfl ?_
  intro T93 X eT
  refine own_aastore X hx hby hZ eT A_b2 (by decide) rfl rfl (O_b2.sto (Ins.self (E_u_API_VERSIONS.ext (own_ext0 K)))) at_96 97 rfl ?_
  intro T96 h96 X eT W A
  have E_b2 := E_b2.wr W
  have O_b2 := O_b2.wr W
  have A_b2 : Afn Z h96 b2 (.object "com/example/enroll/enroll/wire/ApiKey") 14 (upd (upd (upd (upd (upd (upd (upd (upd (upd (upd (upd (upd (upd (upd (fun _ => .null) 0 (.ref u_PRODUCE)) 1 (.ref u_FETCH)) 2 (.ref u_LIST_OFFSETS)) 3 (.ref u_METADATA)) 4 (.ref u_OFFSET_COMMIT)) 5 (.ref u_OFFSET_FETCH)) 6 (.ref u_FIND_COORDINATOR)) 7 (.ref u_JOIN_GROUP)) 8 (.ref u_HEARTBEAT)) 9 (.ref u_LEAVE_GROUP)) 10 (.ref u_SYNC_GROUP)) 11 (.ref u_DESCRIBE_GROUPS)) 12 (.ref u_LIST_GROUPS)) 13 (.ref u_API_VERSIONS)) := A
  have N := Fr.snoc X N g_b2
  have K := K.wr W (Or.inr sz_b2)
  have Zs := Nat.le_trans Zs (Keep.of_wr W).1
  refine own_astoreN X hx hby at_97 rfl (l' := #[.val (.int p1), .val (.int p2), .val (.int p3), .val (.ref b2), .unset, .unset, .unset, .unset, .unset, .unset, .unset, .unset]) rfl 98 rfl ?_
  refine own_bipush X hx hby (14 : Int32) at_98 rfl 100 rfl ?_
  refine own_newarray X hx hby hZ (hw _ (List.mem_of_getElem? (i := 32) rfl)) eT at_100 (z := (14 : Int32)) (by decide) (n := 14) rfl (cap := 14) (by decide) (by decide) (by decide) (by decide) (ad := "[I") rfl 102 rfl ?_
  intro T100 h100 b100 gb100 X eT Ex A A2
  have g_b100 : n0 ≤ b100 := by rw [gb100]; exact Zs
  have sz_b100 : h0.size ≤ b100 := by rw [gb100]; exact K.1
  have ne_b2_b100 : b2 ≠ b100 := Nat.ne_of_lt (by rw [gb100]; exact A_b2.lt)
  have A_b2 := A_b2.ext Ex
  have E_b2 := E_b2.ext Ex
  have O_b2 := O_b2.ext Ex
  have A_b100 : Afi Z h100 b100 .int 14 (fun _ => (0 : Int32)) := A
  have E_b100 := A2
  have K := K.ext Ex
  have Zs := Nat.le_trans Zs Ex.1
  refine own_dup X hx hby at_102 rfl 103 rfl ?_
  refine own_iconst X hx hby (0 : Int32) at_103 rfl 104 rfl ?_
  refine own_iconst X hx hby (3 : Int32) at_104 rfl 105 rfl ?_
  refine own_iastore X hx hby hZ eT A_b100 (by decide) at_105 106 rfl ?_
  intro T105 h105 X eT W A
  have A_b2 := A_b2.other W ne_b2_b100
  have E_b2 := E_b2.wr W
  have O_b2 := O_b2.wr W
  have E_b100 := E_b100.wr W
  have A_b100 : Afi Z h105 b100 .int 14 (updI (fun _ => (0 : Int32)) 0 (3 : Int32)) := A
  have N := Fr.snoc X N g_b100
  have K := K.wr W (Or.inr sz_b100)
  have Zs := Nat.le_trans Zs (Keep.of_wr W).1
  refine own_dup X hx hby at_106 rfl 107 rfl ?_
  refine own_iconst X hx hby (1 : Int32) at_107 rfl 108 rfl ?_
  refine own_iconst X hx hby (4 : Int32) at_108 rfl 109 rfl ?_
  refine own_iastore X hx hby hZ eT A_b100 (by decide) at_109 110 rfl ?_
  intro T109 h109 X eT W A
  have A_b2 := A_b2.other W ne_b2_b100
  have E_b2 := E_b2.wr W
  have O_b2 := O_b2.wr W
  have E_b100 := E_b100.wr W
  have A_b100 : Afi Z h109 b100 .int 14 (updI (updI (fun _ => (0 : Int32)) 0 (3 : Int32)) 1 (4 : Int32)) := A
  have N := Fr.snoc X N g_b100
  have K := K.wr W (Or.inr sz_b100)
  have Zs := Nat.le_trans Zs (Keep.of_wr W).1
  refine own_dup X hx hby at_110 rfl 111 rfl ?_
  refine own_iconst X hx hby (2 : Int32) at_111 rfl 112 rfl ?_
  refine own_iconst X hx hby (1 : Int32) at_112 rfl 113 rfl ?_
  refine own_iastore X hx hby hZ eT A_b100 (by decide) at_113 114 rfl ?_
  intro T113 h113 X eT W A
  have A_b2 := A_b2.other W ne_b2_b100
  have E_b2 := E_b2.wr W
  have O_b2 := O_b2.wr W
  have E_b100 := E_b100.wr W
  have A_b100 : Afi Z h113 b100 .int 14 (updI (updI (updI (fun _ => (0 : Int32)) 0 (3 : Int32)) 1 (4 : Int32)) 2 (1 : Int32)) := A
  have N := Fr.snoc X N g_b100
  have K := K.wr W (Or.inr sz_b100)
  have Zs := Nat.le_trans Zs (Keep.of_wr W).1
  refine own_dup X hx hby at_114 rfl 115 rfl ?_
  refine own_iconst X hx hby (3 : Int32) at_115 rfl 116 rfl ?_
  refine own_iconst X hx hby (0 : Int32) at_116 rfl 117 rfl ?_
  refine own_iastore X hx hby hZ eT A_b100 (by decide) at_117 118 rfl ?_
  intro T117 h117 X eT W A
  have A_b2 := A_b2.other W ne_b2_b100
  have E_b2 := E_b2.wr W
  have O_b2 := O_b2.wr W
  have E_b100 := E_b100.wr W
  have A_b100 : Afi Z h117 b100 .int 14 (updI (updI (updI (updI (fun _ => (0 : Int32)) 0 (3 : Int32)) 1 (4 : Int32)) 2 (1 : Int32)) 3 (0 : Int32)) := A
  have N := Fr.snoc X N g_b100
  have K := K.wr W (Or.inr sz_b100)
  have Zs := Nat.le_trans Zs (Keep.of_wr W).1
  refine own_dup X hx hby at_118 rfl 119 rfl ?_
  refine own_iconst X hx hby (4 : Int32) at_119 rfl 120 rfl ?_
  refine own_iconst X hx hby (2 : Int32) at_120 rfl 121 rfl ?_
  refine own_iastore X hx hby hZ eT A_b100 (by decide) at_121 122 rfl ?_
  intro T121 h121 X eT W A
  have A_b2 := A_b2.other W ne_b2_b100
  have E_b2 := E_b2.wr W
  have O_b2 := O_b2.wr W
  have E_b100 := E_b100.wr W
  have A_b100 : Afi Z h121 b100 .int 14 (updI (updI (updI (updI (updI (fun _ => (0 : Int32)) 0 (3 : Int32)) 1 (4 : Int32)) 2 (1 : Int32)) 3 (0 : Int32)) 4 (2 : Int32)) := A
  have N := Fr.snoc X N g_b100
  have K := K.wr W (Or.inr sz_b100)
  have Zs := Nat.le_trans Zs (Keep.of_wr W).1
  refine own_dup X hx hby at_122 rfl 123 rfl ?_
  refine own_iconst X hx hby (5 : Int32) at_123 rfl 124 rfl ?_
  refine own_iconst X hx hby (1 : Int32) at_124 rfl 125 rfl ?_
  refine own_iastore X hx hby hZ eT A_b100 (by decide) at_125 126 rfl ?_
  intro T125 h125 X eT W A
  have A_b2 := A_b2.other W ne_b2_b100
  have E_b2 := E_b2.wr W
  have O_b2 := O_b2.wr W
  have E_b100 := E_b100.wr W
  have A_b100 : Afi Z h125 b100 .int 14 (updI (updI (updI (updI (updI (updI (fun _ => (0 : Int32)) 0 (3 : Int32)) 1 (4 : Int32)) 2 (1 : Int32)) 3 (0 : Int32)) 4 (2 : Int32)) 5 (1 : Int32)) := A
  have N := Fr.snoc X N g_b100
  have K := K.wr W (Or.inr sz_b100)
  have Zs := Nat.le_trans Zs (Keep.of_wr W).1
  refine own_dup X hx hby at_126 rfl 127 rfl ?_
  refine own_bipush X hx hby (6 : Int32) at_127 rfl 129 rfl ?_
  refine own_iconst X hx hby (0 : Int32) at_129 rfl 130 rfl ?_
  refine own_iastore X hx hby hZ eT A_b100 (by decide) at_130 131 rfl ?_
  intro T130 h130 X eT W A
  have A_b2 := A_b2.other W ne_b2_b100
  have E_b2 := E_b2.wr W
  have O_b2 := O_b2.wr W
  have E_b100 := E_b100.wr W
  have A_b100 : Afi Z h130 b100 .int 14 (updI (updI (updI (updI (updI (updI (updI (fun _ => (0 : Int32)) 0 (3 : Int32)) 1 (4 : Int32)) 2 (1 : Int32)) 3 (0 : Int32)) 4 (2 : Int32)) 5 (1 : Int32)) 6 (0 : Int32)) := A
  have N := Fr.snoc X N g_b100
  have K := K.wr W (Or.inr sz_b100)
  have Zs := Nat.le_trans Zs (Keep.of_wr W).1
  refine own_dup X hx hby at_131 rfl 132 rfl ?_
  refine own_bipush X hx hby (7 : Int32) at_132 rfl 134 rfl ?_
  refine own_iconst X hx hby (0 : Int32) at_134 rfl 135 rfl ?_
  refine own_iastore X hx hby hZ eT A_b100 (by decide) at_135 136 rfl ?_
  intro T135 h135 X eT W A
  have A_b2 := A_b2.other W ne_b2_b100
  have E_b2 := E_b2.wr W
  have O_b2 := O_b2.wr W
  have E_b100 := E_b100.wr W
  have A_b100 : Afi Z h135 b100 .int 14 (updI (updI (updI (updI (updI (updI (updI (updI (fun _ => (0 : Int32)) 0 (3 : Int32)) 1 (4 : Int32)) 2 (1 : Int32)) 3 (0 : Int32)) 4 (2 : Int32)) 5 (1 : Int32)) 6 (0 : Int32)) 7 (0 : Int32)) := A
  have N := Fr.snoc X N g_b100
  have K := K.wr W (Or.inr sz_b100)
  have Zs := Nat.le_trans Zs (Keep.of_wr W).1
  refine own_dup X hx hby at_136 rfl 137 rfl ?_
  refine own_bipush X hx hby (8 : Int32) at_137 rfl 139 rfl ?_
  refine own_iconst X hx hby (0 : Int32) at_139 rfl 140 rfl ?_
  refine own_iastore X hx hby hZ eT A_b100 (by decide) at_140 141 rfl ?_
  intro T140 h140 X eT W A
  have A_b2 := A_b2.other W ne_b2_b100
  have E_b2 := E_b2.wr W
  have O_b2 := O_b2.wr W
  have E_b100 := E_b100.wr W
  have A_b100 : Afi Z h140 b100 .int 14 (updI (updI (updI (updI (updI (updI (updI (updI (updI (fun _ => (0 : Int32)) 0 (3 : Int32)) 1 (4 : Int32)) 2 (1 : Int32)) 3 (0 : Int32)) 4 (2 : Int32)) 5 (1 : Int32)) 6 (0 : Int32)) 7 (0 : Int32)) 8 (0 : Int32)) := A
  have N := Fr.snoc X N g_b100
  have K := K.wr W (Or.inr sz_b100)
  have Zs := Nat.le_trans Zs (Keep.of_wr W).1
  refine own_dup X hx hby at_141 rfl 142 rfl ?_
  refine own_bipush X hx hby (9 : Int32) at_142 rfl 144 rfl ?_
  refine own_iconst X hx hby (0 : Int32) at_144 rfl 145 rfl ?_
  refine own_iastore X hx hby hZ eT A_b100 (by decide) at_145 146 rfl ?_
  intro T145 h145 X eT W A
  have A_b2 := A_b2.other W ne_b2_b100
  have E_b2 := E_b2.wr W
  have O_b2 := O_b2.wr W
  have E_b100 := E_b100.wr W
  have A_b100 : Afi Z h145 b100 .int 14 (updI (updI (updI (updI (updI (updI (updI (updI (updI (updI (fun _ => (0 : Int32)) 0 (3 : Int32)) 1 (4 : Int32)) 2 (1 : Int32)) 3 (0 : Int32)) 4 (2 : Int32)) 5 (1 : Int32)) 6 (0 : Int32)) 7 (0 : Int32)) 8 (0 : Int32)) 9 (0 : Int32)) := A
  have N := Fr.snoc X N g_b100
  have K := K.wr W (Or.inr sz_b100)
  have Zs := Nat.le_trans Zs (Keep.of_wr W).1
  refine own_dup X hx hby at_146 rfl 147 rfl ?_
  refine own_bipush X hx hby (10 : Int32) at_147 rfl 149 rfl ?_
  refine own_iconst X hx hby (0 : Int32) at_149 rfl 150 rfl ?_
  refine own_iastore X hx hby hZ eT A_b100 (by decide) at_150 151 rfl ?_
  intro T150 h150 X eT W A
  have A_b2 := A_b2.other W ne_b2_b100
  have E_b2 := E_b2.wr W
  have O_b2 := O_b2.wr W
  have E_b100 := E_b100.wr W
  have A_b100 : Afi Z h150 b100 .int 14 (updI (updI (updI (updI (updI (updI (updI (updI (updI (updI (updI (fun _ => (0 : Int32)) 0 (3 : Int32)) 1 (4 : Int32)) 2 (1 : Int32)) 3 (0 : Int32)) 4 (2 : Int32)) 5 (1 : Int32)) 6 (0 : Int32)) 7 (0 : Int32)) 8 (0 : Int32)) 9 (0 : Int32)) 10 (0 : Int32)) := A
  have N := Fr.snoc X N g_b100
  have K := K.wr W (Or.inr sz_b100)
  have Zs := Nat.le_trans Zs (Keep.of_wr W).1
  refine own_dup X hx hby at_151 rfl 152 rfl ?_
  refine own_bipush X hx hby (11 : Int32) at_152 rfl 154 rfl ?_
  refine own_iconst X hx hby (0 : Int32) at_154 rfl 155 rfl ?_
  refine own_iastore X hx hby hZ eT A_b100 (by decide) at_155 156 rfl ?_
  intro T155 h155 X eT W A
  have A_b2 := A_b2.other W ne_b2_b100
  have E_b2 := E_b2.wr W
  have O_b2 := O_b2.wr W
  have E_b100 := E_b100.wr W
  have A_b100 : Afi Z h155 b100 .int 14 (updI (updI (updI (updI (updI (updI (updI (updI (updI (updI (updI (updI (fun _ => (0 : Int32)) 0 (3 : Int32)) 1 (4 : Int32)) 2 (1 : Int32)) 3 (0 : Int32)) 4 (2 : Int32)) 5 (1 : Int32)) 6 (0 : Int32)) 7 (0 : Int32)) 8 (0 : Int32)) 9 (0 : Int32)) 10 (0 : Int32)) 11 (0 : Int32)) := A
  have N := Fr.snoc X N g_b100
  have K := K.wr W (Or.inr sz_b100)
  have Zs := Nat.le_trans Zs (Keep.of_wr W).1
  refine own_dup X hx hby at_156 rfl 157 rfl ?_
  refine own_bipush X hx hby (12 : Int32) at_157 rfl 159 rfl ?_
  refine own_iconst X hx hby (0 : Int32) at_159 rfl 160 rfl ?_
  refine own_iastore X hx hby hZ eT A_b100 (by decide) at_160 161 rfl ?_
  intro T160 h160 X eT W A
  have A_b2 := A_b2.other W ne_b2_b100
  have E_b2 := E_b2.wr W
  have O_b2 := O_b2.wr W
  have E_b100 := E_b100.wr W
  have A_b100 : Afi Z h160 b100 .int 14 (updI (updI (updI (updI (updI (updI (updI (updI (updI (updI (updI (updI (updI (fun _ => (0 : Int32)) 0 (3 : Int32)) 1 (4 : Int32)) 2 (1 : Int32)) 3 (0 : Int32)) 4 (2 : Int32)) 5 (1 : Int32)) 6 (0 : Int32)) 7 (0 : Int32)) 8 (0 : Int32)) 9 (0 : Int32)) 10 (0 : Int32)) 11 (0 : Int32)) 12 (0 : Int32)) := A
  have N := Fr.snoc X N g_b100
  have K := K.wr W (Or.inr sz_b100)
  have Zs := Nat.le_trans Zs (Keep.of_wr W).1
  refine own_dup X hx hby at_161 rfl 162 rfl ?_
  refine own_bipush X hx hby (13 : Int32) at_162 rfl 164 rfl ?_
  refine own_iconst X hx hby (0 : Int32) at_164 rfl 165 rfl ?_
  refine own_iastore X hx hby hZ eT A_b100 (by decide) at_165 166 rfl ?_
  intro T165 h165 X eT W A
  have A_b2 := A_b2.other W ne_b2_b100
  have E_b2 := E_b2.wr W
  have O_b2 := O_b2.wr W
  have E_b100 := E_b100.wr W
  have A_b100 : Afi Z h165 b100 .int 14 (updI (updI (updI (updI (updI (updI (updI (updI (updI (updI (updI (updI (updI (updI (fun _ => (0 : Int32)) 0 (3 : Int32)) 1 (4 : Int32)) 2 (1 : Int32)) 3 (0 : Int32)) 4 (2 : Int32)) 5 (1 : Int32)) 6 (0 : Int32)) 7 (0 : Int32)) 8 (0 : Int32)) 9 (0 : Int32)) 10 (0 : Int32)) 11 (0 : Int32)) 12 (0 : Int32)) 13 (0 : Int32)) := A
  have N := Fr.snoc X N g_b100
  have K := K.wr W (Or.inr sz_b100)
  have Zs := Nat.le_trans Zs (Keep.of_wr W).1
  refine own_astore X hx hby at_166 rfl (l' := #[.val (.int p1), .val (.int p2), .val (.int p3), .val (.ref b2), .val (.ref b100), .unset, .unset, .unset, .unset, .unset, .unset, .unset]) rfl 168 rfl ?_
  refine own_bipush X hx hby (14 : Int32) at_168 rfl 170 rfl ?_
  refine own_newarray X hx hby hZ (hw _ (List.mem_of_getElem? (i := 32) rfl)) eT at_170 (z := (14 : Int32)) (by decide) (n := 14) rfl (cap := 14) (by decide) (by decide) (by decide) (by decide) (ad := "[I") rfl 172 rfl ?_
  intro T170 h170 b170 gb170 X eT Ex A A2
  have g_b170 : n0 ≤ b170 := by rw [gb170]; exact Zs
  have sz_b170 : h0.size ≤ b170 := by rw [gb170]; exact K.1
  have ne_b100_b170 : b100 ≠ b170 := Nat.ne_of_lt (by rw [gb170]; exact A_b100.lt)
  have ne_b2_b170 : b2 ≠ b170 := Nat.ne_of_lt (by rw [gb170]; exact A_b2.lt)
  have A_b2 := A_b2.ext Ex
  have E_b2 := E_b2.ext Ex
  have O_b2 := O_b2.ext Ex
  have A_b100 := A_b100.ext Ex
  have E_b100 := E_b100.ext Ex
  have A_b170 : Afi Z h170 b170 .int 14 (fun _ => (0 : Int32)) := A
  have E_b170 := A2
  have K := K.ext Ex
  have Zs := Nat.le_trans Zs Ex.1
  refine own_dup X hx hby at_172 rfl 173 rfl ?_
  refine own_iconst X hx hby (0 : Int32) at_173 rfl 174 rfl ?_
  refine own_bipush X hx hby (7 : Int32) at_174 rfl 176 rfl ?_
  refine own_iastore X hx hby hZ eT A_b170 (by decide) at_176 177 rfl ?_
  intro T176 h176 X eT W A
  have A_b2 := A_b2.other W ne_b2_b170
  have E_b2 := E_b2.wr W
  have O_b2 := O_b2.wr W
  have A_b100 := A_b100.other W ne_b100_b170
  have E_b100 := E_b100.wr W
  have E_b170 := E_b170.wr W
  have A_b170 : Afi Z h176 b170 .int 14 (updI (fun _ => (0 : Int32)) 0 (7 : Int32)) := A
  have N := Fr.snoc X N g_b170
  have K := K.wr W (Or.inr sz_b170)
  have Zs := Nat.le_trans Zs (Keep.of_wr W).1
  refine own_dup X hx hby at_177 rfl 178 rfl ?_
  refine own_iconst X hx hby (1 : Int32) at_178 rfl 179 rfl ?_
  refine own_bipush X hx hby (11 : Int32) at_179 rfl 181 rfl ?_
  refine own_iastore X hx hby hZ eT A_b170 (by decide) at_181 182 rfl ?_
  intro T181 h181 X eT W A
  have A_b2 := A_b2.other W ne_b2_b170
  have E_b2 := E_b2.wr W
  have O_b2 := O_b2.wr W
  have A_b100 := A_b100.other W ne_b100_b170
  have E_b100 := E_b100.wr W
  have E_b170 := E_b170.wr W
  have A_b170 : Afi Z h181 b170 .int 14 (updI (updI (fun _ => (0 : Int32)) 0 (7 : Int32)) 1 (11 : Int32)) := A
  have N := Fr.snoc X N g_b170
  have K := K.wr W (Or.inr sz_b170)
  have Zs := Nat.le_trans Zs (Keep.of_wr W).1
  refine own_dup X hx hby at_182 rfl 183 rfl ?_
  refine own_iconst X hx hby (2 : Int32) at_183 rfl 184 rfl ?_
  refine own_iconst X hx hby (2 : Int32) at_184 rfl 185 rfl ?_
  refine own_iastore X hx hby hZ eT A_b170 (by decide) at_185 186 rfl ?_
  intro T185 h185 X eT W A
  have A_b2 := A_b2.other W ne_b2_b170
  have E_b2 := E_b2.wr W
  have O_b2 := O_b2.wr W
  have A_b100 := A_b100.other W ne_b100_b170
  have E_b100 := E_b100.wr W
  have E_b170 := E_b170.wr W
  have A_b170 : Afi Z h185 b170 .int 14 (updI (updI (updI (fun _ => (0 : Int32)) 0 (7 : Int32)) 1 (11 : Int32)) 2 (2 : Int32)) := A
  have N := Fr.snoc X N g_b170
  have K := K.wr W (Or.inr sz_b170)
  have Zs := Nat.le_trans Zs (Keep.of_wr W).1
  refine own_dup X hx hby at_186 rfl 187 rfl ?_
  refine own_iconst X hx hby (3 : Int32) at_187 rfl 188 rfl ?_
  refine own_iconst X hx hby (4 : Int32) at_188 rfl 189 rfl ?_
  refine own_iastore X hx hby hZ eT A_b170 (by decide) at_189 190 rfl ?_
  intro T189 h189 X eT W A
  have A_b2 := A_b2.other W ne_b2_b170
  have E_b2 := E_b2.wr W
  have O_b2 := O_b2.wr W
  have A_b100 := A_b100.other W ne_b100_b170
  have E_b100 := E_b100.wr W
  have E_b170 := E_b170.wr W
  have A_b170 : Afi Z h189 b170 .int 14 (updI (updI (updI (updI (fun _ => (0 : Int32)) 0 (7 : Int32)) 1 (11 : Int32)) 2 (2 : Int32)) 3 (4 : Int32)) := A
  have N := Fr.snoc X N g_b170
  have K := K.wr W (Or.inr sz_b170)
  have Zs := Nat.le_trans Zs (Keep.of_wr W).1
  refine own_dup X hx hby at_190 rfl 191 rfl ?_
  refine own_iconst X hx hby (4 : Int32) at_191 rfl 192 rfl ?_
  refine own_bipush X hx hby (7 : Int32) at_192 rfl 194 rfl ?_
  refine own_iastore X hx hby hZ eT A_b170 (by decide) at_194 195 rfl ?_
  intro T194 h194 X eT W A
  have A_b2 := A_b2.other W ne_b2_b170
  have E_b2 := E_b2.wr W
  have O_b2 := O_b2.wr W
  have A_b100 := A_b100.other W ne_b100_b170
  have E_b100 := E_b100.wr W
  have E_b170 := E_b170.wr W
  have A_b170 : Afi Z h194 b170 .int 14 (updI (updI (updI (updI (updI (fun _ => (0 : Int32)) 0 (7 : Int32)) 1 (11 : Int32)) 2 (2 : Int32)) 3 (4 : Int32)) 4 (7 : Int32)) := A
  have N := Fr.snoc X N g_b170
  have K := K.wr W (Or.inr sz_b170)
  have Zs := Nat.le_trans Zs (Keep.of_wr W).1
  refine own_dup X hx hby at_195 rfl 196 rfl ?_
  refine own_iconst X hx hby (5 : Int32) at_196 rfl 197 rfl ?_
  refine own_bipush X hx hby (7 : Int32) at_197 rfl 199 rfl ?_
  refine own_iastore X hx hby hZ eT A_b170 (by decide) at_199 200 rfl ?_
  intro T199 h199 X eT W A
  have A_b2 := A_b2.other W ne_b2_b170
  have E_b2 := E_b2.wr W
  have O_b2 := O_b2.wr W
  have A_b100 := A_b100.other W ne_b100_b170
  have E_b100 := E_b100.wr W
  have E_b170 := E_b170.wr W
  have A_b170 : Afi Z h199 b170 .int 14 (updI (updI (updI (updI (updI (updI (fun _ => (0 : Int32)) 0 (7 : Int32)) 1 (11 : Int32)) 2 (2 : Int32)) 3 (4 : Int32)) 4 (7 : Int32)) 5 (7 : Int32)) := A
  have N := Fr.snoc X N g_b170
  have K := K.wr W (Or.inr sz_b170)
  have Zs := Nat.le_trans Zs (Keep.of_wr W).1
  refine own_dup X hx hby at_200 rfl 201 rfl ?_
  refine own_bipush X hx hby (6 : Int32) at_201 rfl 203 rfl ?_
  refine own_iconst X hx hby (2 : Int32) at_203 rfl 204 rfl ?_
  refine own_iastore X hx hby hZ eT A_b170 (by decide) at_204 205 rfl ?_
  intro T204 h204 X eT W A
  have A_b2 := A_b2.other W ne_b2_b170
  have E_b2 := E_b2.wr W
  have O_b2 := O_b2.wr W
  have A_b100 := A_b100.other W ne_b100_b170
  have E_b100 := E_b100.wr W
  have E_b170 := E_b170.wr W
  have A_b170 : Afi Z h204 b170 .int 14 (updI (updI (updI (updI (updI (updI (updI (fun _ => (0 : Int32)) 0 (7 : Int32)) 1 (11 : Int32)) 2 (2 : Int32)) 3 (4 : Int32)) 4 (7 : Int32)) 5 (7 : Int32)) 6 (2 : Int32)) := A
  have N := Fr.snoc X N g_b170
  have K := K.wr W (Or.inr sz_b170)
  have Zs := Nat.le_trans Zs (Keep.of_wr W).1
  refine own_dup X hx hby at_205 rfl 206 rfl ?_
  refine own_bipush X hx hby (7 : Int32) at_206 rfl 208 rfl ?_
  refine own_iconst X hx hby (5 : Int32) at_208 rfl 209 rfl ?_
  refine own_iastore X hx hby hZ eT A_b170 (by decide) at_209 210 rfl ?_
  intro T209 h209 X eT W A
  have A_b2 := A_b2.other W ne_b2_b170
  have E_b2 := E_b2.wr W
  have O_b2 := O_b2.wr W
  have A_b100 := A_b100.other W ne_b100_b170
  have E_b100 := E_b100.wr W
  have E_b170 := E_b170.wr W
  have A_b170 : Afi Z h209 b170 .int 14 (updI (updI (updI (updI (updI (updI (updI (updI (fun _ => (0 : Int32)) 0 (7 : Int32)) 1 (11 : Int32)) 2 (2 : Int32)) 3 (4 : Int32)) 4 (7 : Int32)) 5 (7 : Int32)) 6 (2 : Int32)) 7 (5 : Int32)) := A
  have N := Fr.snoc X N g_b170
  have K := K.wr W (Or.inr sz_b170)
  have Zs := Nat.le_trans Zs (Keep.of_wr W).1
  refine own_dup X hx hby at_210 rfl 211 rfl ?_
  refine own_bipush X hx hby (8 : Int32) at_211 rfl 213 rfl ?_
  refine own_iconst X hx hby (3 : Int32) at_213 rfl 214 rfl ?_
  refine own_iastore X hx hby hZ eT A_b170 (by decide) at_214 215 rfl ?_
  intro T214 h214 X eT W A
  have A_b2 := A_b2.other W ne_b2_b170
  have E_b2 := E_b2.wr W
  have O_b2 := O_b2.wr W
  have A_b100 := A_b100.other W ne_b100_b170
  have E_b100 := E_b100.wr W
  have E_b170 := E_b170.wr W
  have A_b170 : Afi Z h214 b170 .int 14 (updI (updI (updI (updI (updI (updI (updI (updI (updI (fun _ => (0 : Int32)) 0 (7 : Int32)) 1 (11 : Int32)) 2 (2 : Int32)) 3 (4 : Int32)) 4 (7 : Int32)) 5 (7 : Int32)) 6 (2 : Int32)) 7 (5 : Int32)) 8 (3 : Int32)) := A
  have N := Fr.snoc X N g_b170
  have K := K.wr W (Or.inr sz_b170)
  have Zs := Nat.le_trans Zs (Keep.of_wr W).1
  refine own_dup X hx hby at_215 rfl 216 rfl ?_
  refine own_bipush X hx hby (9 : Int32) at_216 rfl 218 rfl ?_
  refine own_iconst X hx hby (3 : Int32) at_218 rfl 219 rfl ?_
  refine own_iastore X hx hby hZ eT A_b170 (by decide) at_219 220 rfl ?_
  intro T219 h219 X eT W A
  have A_b2 := A_b2.other W ne_b2_b170
  have E_b2 := E_b2.wr W
  have O_b2 := O_b2.wr W
  have A_b100 := A_b100.other W ne_b100_b170
  have E_b100 := E_b100.wr W
  have E_b170 := E_b170.wr W
  have A_b170 : Afi Z h219 b170 .int 14 (updI (updI (updI (updI (updI (updI (updI (updI (updI (updI (fun _ => (0 : Int32)) 0 (7 : Int32)) 1 (11 : Int32)) 2 (2 : Int32)) 3 (4 : Int32)) 4 (7 : Int32)) 5 (7 : Int32)) 6 (2 : Int32)) 7 (5 : Int32)) 8 (3 : Int32)) 9 (3 : Int32)) := A
  have N := Fr.snoc X N g_b170
  have K := K.wr W (Or.inr sz_b170)
  have Zs := Nat.le_trans Zs (Keep.of_wr W).1
  refine own_dup X hx hby at_220 rfl 221 rfl ?_
  refine own_bipush X hx hby (10 : Int32) at_221 rfl 223 rfl ?_
  refine own_iconst X hx hby (3 : Int32) at_223 rfl 224 rfl ?_
  refine own_iastore X hx hby hZ eT A_b170 (by decide) at_224 225 rfl ?_
  intro T224 h224 X eT W A
  have A_b2 := A_b2.other W ne_b2_b170
  have E_b2 := E_b2.wr W
  have O_b2 := O_b2.wr W
  have A_b100 := A_b100.other W ne_b100_b170
  have E_b100 := E_b100.wr W
  have E_b170 := E_b170.wr W
  have A_b170 : Afi Z h224 b170 .int 14 (updI (updI (updI (updI (updI (updI (updI (updI (updI (updI (updI (fun _ => (0 : Int32)) 0 (7 : Int32)) 1 (11 : Int32)) 2 (2 : Int32)) 3 (4 : Int32)) 4 (7 : Int32)) 5 (7 : Int32)) 6 (2 : Int32)) 7 (5 : Int32)) 8 (3 : Int32)) 9 (3 : Int32)) 10 (3 : Int32)) := A
  have N := Fr.snoc X N g_b170
  have K := K.wr W (Or.inr sz_b170)
  have Zs := Nat.le_trans Zs (Keep.of_wr W).1
  refine own_dup X hx hby at_225 rfl 226 rfl ?_
  refine own_bipush X hx hby (11 : Int32) at_226 rfl 228 rfl ?_
  refine own_iconst X hx hby (4 : Int32) at_228 rfl 229 rfl ?_
  refine own_iastore X hx hby hZ eT A_b170 (by decide) at_229 230 rfl ?_
  intro T229 h229 X eT W A
  have A_b2 := A_b2.other W ne_b2_b170
  have E_b2 := E_b2.wr W
  have O_b2 := O_b2.wr W
  have A_b100 := A_b100.other W ne_b100_b170
  have E_b100 := E_b100.wr W
  have E_b170 := E_b170.wr W
  have A_b170 : Afi Z h229 b170 .int 14 (updI (updI (updI (updI (updI (updI (updI (updI (updI (updI (updI (updI (fun _ => (0 : Int32)) 0 (7 : Int32)) 1 (11 : Int32)) 2 (2 : Int32)) 3 (4 : Int32)) 4 (7 : Int32)) 5 (7 : Int32)) 6 (2 : Int32)) 7 (5 : Int32)) 8 (3 : Int32)) 9 (3 : Int32)) 10 (3 : Int32)) 11 (4 : Int32)) := A
  have N := Fr.snoc X N g_b170
  have K := K.wr W (Or.inr sz_b170)
  have Zs := Nat.le_trans Zs (Keep.of_wr W).1
  refine own_dup X hx hby at_230 rfl 231 rfl ?_
  refine own_bipush X hx hby (12 : Int32) at_231 rfl 233 rfl ?_
  refine own_iconst X hx hby (2 : Int32) at_233 rfl 234 rfl ?_
  refine own_iastore X hx hby hZ eT A_b170 (by decide) at_234 235 rfl ?_
  intro T234 h234 X eT W A
  have A_b2 := A_b2.other W ne_b2_b170
  have E_b2 := E_b2.wr W
  have O_b2 := O_b2.wr W
  have A_b100 := A_b100.other W ne_b100_b170
  have E_b100 := E_b100.wr W
  have E_b170 := E_b170.wr W
  have A_b170 : Afi Z h234 b170 .int 14 (updI (updI (updI (updI (updI (updI (updI (updI (updI (updI (updI (updI (updI (fun _ => (0 : Int32)) 0 (7 : Int32)) 1 (11 : Int32)) 2 (2 : Int32)) 3 (4 : Int32)) 4 (7 : Int32)) 5 (7 : Int32)) 6 (2 : Int32)) 7 (5 : Int32)) 8 (3 : Int32)) 9 (3 : Int32)) 10 (3 : Int32)) 11 (4 : Int32)) 12 (2 : Int32)) := A
  have N := Fr.snoc X N g_b170
  have K := K.wr W (Or.inr sz_b170)
  have Zs := Nat.le_trans Zs (Keep.of_wr W).1
  refine own_dup X hx hby at_235 rfl 236 rfl ?_
  refine own_bipush X hx hby (13 : Int32) at_236 rfl 238 rfl ?_
  refine own_iconst X hx hby (4 : Int32) at_238 rfl 239 rfl ?_
  refine own_iastore X hx hby hZ eT A_b170 (by decide) at_239 240 rfl ?_
  intro T239 h239 X eT W A
  have A_b2 := A_b2.other W ne_b2_b170
  have E_b2 := E_b2.wr W
  have O_b2 := O_b2.wr W
  have A_b100 := A_b100.other W ne_b100_b170
  have E_b100 := E_b100.wr W
  have E_b170 := E_b170.wr W
  have A_b170 : Afi Z h239 b170 .int 14 (updI (updI (updI (updI (updI (updI (updI (updI (updI (updI (updI (updI (updI (updI (fun _ => (0 : Int32)) 0 (7 : Int32)) 1 (11 : Int32)) 2 (2 : Int32)) 3 (4 : Int32)) 4 (7 : Int32)) 5 (7 : Int32)) 6 (2 : Int32)) 7 (5 : Int32)) 8 (3 : Int32)) 9 (3 : Int32)) 10 (3 : Int32)) 11 (4 : Int32)) 12 (2 : Int32)) 13 (4 : Int32)) := A
  have N := Fr.snoc X N g_b170
  have K := K.wr W (Or.inr sz_b170)
  have Zs := Nat.le_trans Zs (Keep.of_wr W).1
  refine own_astore X hx hby at_240 rfl (l' := #[.val (.int p1), .val (.int p2), .val (.int p3), .val (.ref b2), .val (.ref b100), .val (.ref b170), .unset, .unset, .unset, .unset, .unset, .unset]) rfl 242 rfl ?_
  refine own_iloadN X hx hby p1 at_242 rfl 243 rfl ?_
  refine own_ldc X hx hby hZ (2147483647 : Int32) hown (hw _ (List.mem_of_getElem? (i := 33) rfl)) at_243 245 rfl ?_
  refine own_iand X hx hby at_245 246 rfl ?_
  refine own_bipush X hx hby (14 : Int32) at_246 rfl 248 rfl ?_
  refine own_irem X hx hby at_248 (by decide) 249 rfl ?_
  obtain ⟨v249, e249⟩ : ∃ z : Int32, ((p1 &&& (2147483647 : Int32)) % (14 : Int32)) = z := ⟨_, rfl⟩
  refine own_istore X hx hby at_249 e249 (l' := #[.val (.int p1), .val (.int p2), .val (.int p3), .val (.ref b2), .val (.ref b100), .val (.ref b170), .val (.int v249), .unset, .unset, .unset, .unset, .unset]) rfl 251 rfl ?_
  rcases (own_split _ _ e249 : v249 = (0 : Int32) ∨ v249 = (1 : Int32) ∨ v249 = (2 : Int32) ∨ v249 = (3 : Int32) ∨ v249 = (4 : Int32) ∨ v249 = (5 : Int32) ∨ v249 = (6 : Int32) ∨ v249 = (7 : Int32) ∨ v249 = (8 : Int32) ∨ v249 = (9 : Int32) ∨ v249 = (10 : Int32) ∨ v249 = (11 : Int32) ∨ v249 = (12 : Int32) ∨ v249 = (13 : Int32)) with rfl | rfl | rfl | rfl | rfl | rfl | rfl | rfl | rfl | rfl | rfl | rfl | rfl | rfl
  · skip
    refine own_iloadN X hx hby p2 at_251 rfl 252 rfl ?_
    refine own_iconst X hx hby (3 : Int32) at_252 rfl 253 rfl ?_
    refine own_iand X hx hby at_253 254 rfl ?_
    obtain ⟨v254, e254⟩ : ∃ z : Int32, (p2 &&& (3 : Int32)) = z := ⟨_, rfl⟩
    refine own_istore X hx hby at_254 e254 (l' := #[.val (.int p1), .val (.int p2), .val (.int p3), .val (.ref b2), .val (.ref b100), .val (.ref b170), .val (.int (0 : Int32)), .val (.int v254), .unset, .unset, .unset, .unset]) rfl 256 rfl ?_
    refine own_iloadN X hx hby p3 at_256 rfl 257 rfl ?_
    refine own_iconst X hx hby (3 : Int32) at_257 rfl 258 rfl ?_
    refine own_iand X hx hby at_258 259 rfl ?_
    refine own_iconst X hx hby (1 : Int32) at_259 rfl 260 rfl ?_
    refine own_isub X hx hby at_260 261 rfl ?_
    obtain ⟨v261, e261⟩ : ∃ z : Int32, ((p3 &&& (3 : Int32)) - (1 : Int32)) = z := ⟨_, rfl⟩
    refine own_istore X hx hby at_261 e261 (l' := #[.val (.int p1), .val (.int p2), .val (.int p3), .val (.ref b2), .val (.ref b100), .val (.ref b170), .val (.int (0 : Int32)), .val (.int v254), .val (.int v261), .unset, .unset, .unset]) rfl 263 rfl ?_
    refine own_iload X hx hby v254 at_263 rfl 265 rfl ?_
    refine own_iconst X hx hby (1 : Int32) at_265 rfl 266 rfl ?_
    have J266 : ∀ (j266_0 : Int32), j266_0 = (if v254 = (1 : Int32) then ((3 : Int32) + v261) else (if v254 = (2 : Int32) then ((7 : Int32) + v261) else (p3.toInt16.toInt32))) → Go p e below (FinQ s (Q0 Z p1 p2 p3 u_PRODUCE u_FETCH u_LIST_OFFSETS u_METADATA u_OFFSET_COMMIT u_OFFSET_FETCH u_FIND_COORDINATOR u_JOIN_GROUP u_HEARTBEAT u_LEAVE_GROUP u_SYNC_GROUP u_DESCRIBE_GROUPS u_LIST_GROUPS u_API_VERSIONS h0 n0) room_1.cells room_1.slots) T239 (mkF m 305 #[.val (.int p1), .val (.int p2), .val (.int p3), .val (.ref b2), .val (.ref b100), .val (.ref b170), .val (.int (0 : Int32)), .val (.int v254), .val (.int v261), .val (.int j266_0), .unset, .unset] []) := by
      intro j266_0 ej266_0
      refine own_iload X hx hby j266_0 at_305 rfl 307 rfl ?_
      refine own_i2s X hx hby at_307 308 rfl ?_
      obtain ⟨v308, e308⟩ : ∃ z : Int32, (j266_0.toInt16.toInt32) = z := ⟨_, rfl⟩
      refine own_istore X hx hby at_308 e308 (l' := #[.val (.int p1), .val (.int p2), .val (.int p3), .val (.ref b2), .val (.ref b100), .val (.ref b170), .val (.int (0 : Int32)), .val (.int v254), .val (.int v261), .val (.int j266_0), .val (.int v308), .unset]) rfl 310 rfl ?_
      refine own_iload X hx hby j266_0 at_310 rfl 312 rfl ?_
      refine own_aload X hx hby (.ref b100) at_312 rfl rfl 314 rfl ?_
      refine own_iload X hx hby (0 : Int32) at_314 rfl 316 rfl ?_
      refine own_iaload X hx hby hZ (3 : Int32) eT A_b100 (by decide) rfl at_316 317 rfl ?_
      have J317 : ∀ (j317_0 : Int32), j317_0 = (if j266_0 < (3 : Int32) then (0 : Int32) else (if (7 : Int32) < j266_0 then (0 : Int32) else (1 : Int32))) → Go p e below (FinQ s (Q0 Z p1 p2 p3 u_PRODUCE u_FETCH u_LIST_OFFSETS u_METADATA u_OFFSET_COMMIT u_OFFSET_FETCH u_FIND_COORDINATOR u_JOIN_GROUP u_HEARTBEAT u_LEAVE_GROUP u_SYNC_GROUP u_DESCRIBE_GROUPS u_LIST_GROUPS u_API_VERSIONS h0 n0) room_1.cells room_1.slots) T239 (mkF m 335 #[.val (.int p1), .val (.int p2), .val (.int p3), .val (.ref b2), .val (.ref b100), .val (.ref b170), .val (.int (0 : Int32)), .val (.int v254), .val (.int v261), .val (.int j266_0), .val (.int v308), .unset] [(.int j317_0)]) := by
        intro j317_0 ej317_0
        refine own_istore X hx hby at_335 rfl (l' := #[.val (.int p1), .val (.int p2), .val (.int p3), .val (.ref b2), .val (.ref b100), .val (.ref b170), .val (.int (0 : Int32)), .val (.int v254), .val (.int v261), .val (.int j266_0), .val (.int v308), .val (.int j317_0)]) rfl 337 rfl ?_
        refine own_aloadN X hx hby (.ref b2) at_337 rfl rfl 338 rfl ?_
        refine own_iload X hx hby (0 : Int32) at_338 rfl 340 rfl ?_
        refine own_aaload X hx hby hZ (.ref u_PRODUCE) eT A_b2 rfl (by decide) rfl at_340 341 rfl ?_
        refine own_iload X hx hby v308 at_341 rfl 343 rfl ?_
        refine own_callV X hx hby hZ (st := []) [(.int v308)] rfl hown (hw _ (List.mem_of_getElem? (i := 34) rfl)) (hw _ (List.mem_of_getElem? (i := 35) rfl)) (hw _ (List.mem_of_getElem? (i := 37) rfl)) (hw _ (List.mem_of_getElem? (i := 36) rfl)) (hw _ (List.mem_of_getElem? (i := 3) rfl)) (hw _ (List.mem_of_getElem? (i := 38) rfl)) (E_u_PRODUCE.ext (own_ext0 K)) (by decide) at_343 (rm1 l Z a0 hw u_PRODUCE v308 (3 : Int32) (7 : Int32) h239 n0 Zs (F_minVersion_u_PRODUCE.ext (own_ext0 K)) (F_maxVersion_u_PRODUCE.ext (own_ext0 K))) eT pd_0 rfl (by rw [hml]; rfl) (by decide) 0 rfl (by decide) (by decide) (by decide) 346 rfl ?_
        intro T343 L9 v9 X hQ
        obtain ⟨rfl, N9, eT⟩ := hQ
        have N := Fr.app N N9
        show Go p e below _ T343 (mkF m 346 #[.val (.int p1), .val (.int p2), .val (.int p3), .val (.ref b2), .val (.ref b100), .val (.ref b170), .val (.int (0 : Int32)), .val (.int v254), .val (.int v261), .val (.int j266_0), .val (.int v308), .val (.int j317_0)] [(.int (f1 v308 (3 : Int32) (7 : Int32)))])
        refine own_iload X hx hby j317_0 at_346 rfl 348 rfl ?_
        have c348 : (f1 v308 (3 : Int32) (7 : Int32)) = j317_0 := own_v _ _ _ _ _ _ _ _ e261 (by decide) (by decide) ej266_0 e308 _ ej317_0
        refine own_icmp_ne X hx hby at_348 355 351 (by decide) rfl (fun q => absurd c348 q) (fun _ => ?_)
        refine own_iconst X hx hby (1 : Int32) at_351 rfl 352 rfl ?_
        refine own_goto X hx hby at_352 356 (by decide) ?_
        refine own_retN X hx hby hret hlk (t := .boolean) (z' := (1 : Int32)) (by simp) at_356 (by decide) (by decide) rfl ?_
        rw [eT]
        exact ⟨rfl, N⟩
      refine own_icmp_lt X hx hby at_317 334 320 (by decide) rfl (fun c317 => ?_) (fun c317 => ?_)
      · skip
        refine own_iconst X hx hby (0 : Int32) at_334 rfl 335 rfl ?_
        exact J317 _ (by rw [if_pos c317])
      · skip
        refine own_iload X hx hby j266_0 at_320 rfl 322 rfl ?_
        refine own_aload X hx hby (.ref b170) at_322 rfl rfl 324 rfl ?_
        refine own_iload X hx hby (0 : Int32) at_324 rfl 326 rfl ?_
        refine own_iaload X hx hby hZ (7 : Int32) eT A_b170 (by decide) rfl at_326 327 rfl ?_
        refine own_icmp_gt X hx hby at_327 334 330 (by decide) rfl (fun c327 => ?_) (fun c327 => ?_)
        · skip
          refine own_iconst X hx hby (0 : Int32) at_334 rfl 335 rfl ?_
          exact J317 _ (by rw [if_neg c317, if_pos c327])
        · skip
          refine own_iconst X hx hby (1 : Int32) at_330 rfl 331 rfl ?_
          refine own_goto X hx hby at_331 335 (by decide) ?_
          exact J317 _ (by rw [if_neg c317, if_neg c327])
    refine own_icmp_ne X hx hby at_266 282 269 (by decide) rfl (fun c266 => ?_) (fun c266 => ?_)
    · skip
      refine own_iload X hx hby v254 at_282 rfl 284 rfl ?_
      refine own_iconst X hx hby (2 : Int32) at_284 rfl 285 rfl ?_
      refine own_icmp_ne X hx hby at_285 301 288 (by decide) rfl (fun c285 => ?_) (fun c285 => ?_)
      · skip
        refine own_iloadN X hx hby p3 at_301 rfl 302 rfl ?_
        refine own_i2s X hx hby at_302 303 rfl ?_
        refine own_istore X hx hby at_303 rfl (l' := #[.val (.int p1), .val (.int p2), .val (.int p3), .val (.ref b2), .val (.ref b100), .val (.ref b170), .val (.int (0 : Int32)), .val (.int v254), .val (.int v261), .val (.int (p3.toInt16.toInt32)), .unset, .unset]) rfl 305 rfl ?_
        exact J266 _ (by rw [if_neg c266, if_neg c285])
      · skip
        refine own_aload X hx hby (.ref b170) at_288 rfl rfl 290 rfl ?_
        refine own_iload X hx hby (0 : Int32) at_290 rfl 292 rfl ?_
        refine own_iaload X hx hby hZ (7 : Int32) eT A_b170 (by decide) rfl at_292 293 rfl ?_
        refine own_iload X hx hby v261 at_293 rfl 295 rfl ?_
        refine own_iadd X hx hby at_295 296 rfl ?_
        refine own_istore X hx hby at_296 rfl (l' := #[.val (.int p1), .val (.int p2), .val (.int p3), .val (.ref b2), .val (.ref b100), .val (.ref b170), .val (.int (0 : Int32)), .val (.int v254), .val (.int v261), .val (.int ((7 : Int32) + v261)), .unset, .unset]) rfl 298 rfl ?_
        refine own_goto X hx hby at_298 305 (by decide) ?_
        exact J266 _ (by rw [if_neg c266, if_pos c285])
    · skip
      refine own_aload X hx hby (.ref b100) at_269 rfl rfl 271 rfl ?_
      refine own_iload X hx hby (0 : Int32) at_271 rfl 273 rfl ?_
      refine own_iaload X hx hby hZ (3 : Int32) eT A_b100 (by decide) rfl at_273 274 rfl ?_
      refine own_iload X hx hby v261 at_274 rfl 276 rfl ?_
      refine own_iadd X hx hby at_276 277 rfl ?_
      refine own_istore X hx hby at_277 rfl (l' := #[.val (.int p1), .val (.int p2), .val (.int p3), .val (.ref b2), .val (.ref b100), .val (.ref b170), .val (.int (0 : Int32)), .val (.int v254), .val (.int v261), .val (.int ((3 : Int32) + v261)), .unset, .unset]) rfl 279 rfl ?_
      refine own_goto X hx hby at_279 305 (by decide) ?_
      exact J266 _ (by rw [if_pos c266])
  · skip
    refine own_iloadN X hx hby p2 at_251 rfl 252 rfl ?_
    refine own_iconst X hx hby (3 : Int32) at_252 rfl 253 rfl ?_
    refine own_iand X hx hby at_253 254 rfl ?_
    obtain ⟨v254, e254⟩ : ∃ z : Int32, (p2 &&& (3 : Int32)) = z := ⟨_, rfl⟩
    refine own_istore X hx hby at_254 e254 (l' := #[.val (.int p1), .val (.int p2), .val (.int p3), .val (.ref b2), .val (.ref b100), .val (.ref b170), .val (.int (1 : Int32)), .val (.int v254), .unset, .unset, .unset, .unset]) rfl 256 rfl ?_
    refine own_iloadN X hx hby p3 at_256 rfl 257 rfl ?_
    refine own_iconst X hx hby (3 : Int32) at_257 rfl 258 rfl ?_
    refine own_iand X hx hby at_258 259 rfl ?_
    refine own_iconst X hx hby (1 : Int32) at_259 rfl 260 rfl ?_
    refine own_isub X hx hby at_260 261 rfl ?_
    obtain ⟨v261, e261⟩ : ∃ z : Int32, ((p3 &&& (3 : Int32)) - (1 : Int32)) = z := ⟨_, rfl⟩
    refine own_istore X hx hby at_261 e261 (l' := #[.val (.int p1), .val (.int p2), .val (.int p3), .val (.ref b2), .val (.ref b100), .val (.ref b170), .val (.int (1 : Int32)), .val (.int v254), .val (.int v261), .unset, .unset, .unset]) rfl 263 rfl ?_
    refine own_iload X hx hby v254 at_263 rfl 265 rfl ?_
    refine own_iconst X hx hby (1 : Int32) at_265 rfl 266 rfl ?_
    have J266 : ∀ (j266_0 : Int32), j266_0 = (if v254 = (1 : Int32) then ((4 : Int32) + v261) else (if v254 = (2 : Int32) then ((11 : Int32) + v261) else (p3.toInt16.toInt32))) → Go p e below (FinQ s (Q0 Z p1 p2 p3 u_PRODUCE u_FETCH u_LIST_OFFSETS u_METADATA u_OFFSET_COMMIT u_OFFSET_FETCH u_FIND_COORDINATOR u_JOIN_GROUP u_HEARTBEAT u_LEAVE_GROUP u_SYNC_GROUP u_DESCRIBE_GROUPS u_LIST_GROUPS u_API_VERSIONS h0 n0) room_1.cells room_1.slots) T239 (mkF m 305 #[.val (.int p1), .val (.int p2), .val (.int p3), .val (.ref b2), .val (.ref b100), .val (.ref b170), .val (.int (1 : Int32)), .val (.int v254), .val (.int v261), .val (.int j266_0), .unset, .unset] []) := by
      intro j266_0 ej266_0
      refine own_iload X hx hby j266_0 at_305 rfl 307 rfl ?_
      refine own_i2s X hx hby at_307 308 rfl ?_
      obtain ⟨v308, e308⟩ : ∃ z : Int32, (j266_0.toInt16.toInt32) = z := ⟨_, rfl⟩
      refine own_istore X hx hby at_308 e308 (l' := #[.val (.int p1), .val (.int p2), .val (.int p3), .val (.ref b2), .val (.ref b100), .val (.ref b170), .val (.int (1 : Int32)), .val (.int v254), .val (.int v261), .val (.int j266_0), .val (.int v308), .unset]) rfl 310 rfl ?_
      refine own_iload X hx hby j266_0 at_310 rfl 312 rfl ?_
      refine own_aload X hx hby (.ref b100) at_312 rfl rfl 314 rfl ?_
      refine own_iload X hx hby (1 : Int32) at_314 rfl 316 rfl ?_
      refine own_iaload X hx hby hZ (4 : Int32) eT A_b100 (by decide) rfl at_316 317 rfl ?_
      have J317 : ∀ (j317_0 : Int32), j317_0 = (if j266_0 < (4 : Int32) then (0 : Int32) else (if (11 : Int32) < j266_0 then (0 : Int32) else (1 : Int32))) → Go p e below (FinQ s (Q0 Z p1 p2 p3 u_PRODUCE u_FETCH u_LIST_OFFSETS u_METADATA u_OFFSET_COMMIT u_OFFSET_FETCH u_FIND_COORDINATOR u_JOIN_GROUP u_HEARTBEAT u_LEAVE_GROUP u_SYNC_GROUP u_DESCRIBE_GROUPS u_LIST_GROUPS u_API_VERSIONS h0 n0) room_1.cells room_1.slots) T239 (mkF m 335 #[.val (.int p1), .val (.int p2), .val (.int p3), .val (.ref b2), .val (.ref b100), .val (.ref b170), .val (.int (1 : Int32)), .val (.int v254), .val (.int v261), .val (.int j266_0), .val (.int v308), .unset] [(.int j317_0)]) := by
        intro j317_0 ej317_0
        refine own_istore X hx hby at_335 rfl (l' := #[.val (.int p1), .val (.int p2), .val (.int p3), .val (.ref b2), .val (.ref b100), .val (.ref b170), .val (.int (1 : Int32)), .val (.int v254), .val (.int v261), .val (.int j266_0), .val (.int v308), .val (.int j317_0)]) rfl 337 rfl ?_
        refine own_aloadN X hx hby (.ref b2) at_337 rfl rfl 338 rfl ?_
        refine own_iload X hx hby (1 : Int32) at_338 rfl 340 rfl ?_
        refine own_aaload X hx hby hZ (.ref u_FETCH) eT A_b2 rfl (by decide) rfl at_340 341 rfl ?_
        refine own_iload X hx hby v308 at_341 rfl 343 rfl ?_
        refine own_callV X hx hby hZ (st := []) [(.int v308)] rfl hown (hw _ (List.mem_of_getElem? (i := 34) rfl)) (hw _ (List.mem_of_getElem? (i := 35) rfl)) (hw _ (List.mem_of_getElem? (i := 37) rfl)) (hw _ (List.mem_of_getElem? (i := 36) rfl)) (hw _ (List.mem_of_getElem? (i := 3) rfl)) (hw _ (List.mem_of_getElem? (i := 38) rfl)) (E_u_FETCH.ext (own_ext0 K)) (by decide) at_343 (rm1 l Z a0 hw u_FETCH v308 (4 : Int32) (11 : Int32) h239 n0 Zs (F_minVersion_u_FETCH.ext (own_ext0 K)) (F_maxVersion_u_FETCH.ext (own_ext0 K))) eT pd_0 rfl (by rw [hml]; rfl) (by decide) 0 rfl (by decide) (by decide) (by decide) 346 rfl ?_
        intro T343 L9 v9 X hQ
        obtain ⟨rfl, N9, eT⟩ := hQ
        have N := Fr.app N N9
        show Go p e below _ T343 (mkF m 346 #[.val (.int p1), .val (.int p2), .val (.int p3), .val (.ref b2), .val (.ref b100), .val (.ref b170), .val (.int (1 : Int32)), .val (.int v254), .val (.int v261), .val (.int j266_0), .val (.int v308), .val (.int j317_0)] [(.int (f1 v308 (4 : Int32) (11 : Int32)))])
        refine own_iload X hx hby j317_0 at_346 rfl 348 rfl ?_
        have c348 : (f1 v308 (4 : Int32) (11 : Int32)) = j317_0 := own_v _ _ _ _ _ _ _ _ e261 (by decide) (by decide) ej266_0 e308 _ ej317_0
        refine own_icmp_ne X hx hby at_348 355 351 (by decide) rfl (fun q => absurd c348 q) (fun _ => ?_)
        refine own_iconst X hx hby (1 : Int32) at_351 rfl 352 rfl ?_
        refine own_goto X hx hby at_352 356 (by decide) ?_
        refine own_retN X hx hby hret hlk (t := .boolean) (z' := (1 : Int32)) (by simp) at_356 (by decide) (by decide) rfl ?_
        rw [eT]
        exact ⟨rfl, N⟩
      refine own_icmp_lt X hx hby at_317 334 320 (by decide) rfl (fun c317 => ?_) (fun c317 => ?_)
      · skip
        refine own_iconst X hx hby (0 : Int32) at_334 rfl 335 rfl ?_
        exact J317 _ (by rw [if_pos c317])
      · skip
        refine own_iload X hx hby j266_0 at_320 rfl 322 rfl ?_
        refine own_aload X hx hby (.ref b170) at_322 rfl rfl 324 rfl ?_
        refine own_iload X hx hby (1 : Int32) at_324 rfl 326 rfl ?_
        refine own_iaload X hx hby hZ (11 : Int32) eT A_b170 (by decide) rfl at_326 327 rfl ?_
        refine own_icmp_gt X hx hby at_327 334 330 (by decide) rfl (fun c327 => ?_) (fun c327 => ?_)
        · skip
          refine own_iconst X hx hby (0 : Int32) at_334 rfl 335 rfl ?_
          exact J317 _ (by rw [if_neg c317, if_pos c327])
        · skip
          refine own_iconst X hx hby (1 : Int32) at_330 rfl 331 rfl ?_
          refine own_goto X hx hby at_331 335 (by decide) ?_
          exact J317 _ (by rw [if_neg c317, if_neg c327])
    refine own_icmp_ne X hx hby at_266 282 269 (by decide) rfl (fun c266 => ?_) (fun c266 => ?_)
    · skip
      refine own_iload X hx hby v254 at_282 rfl 284 rfl ?_
      refine own_iconst X hx hby (2 : Int32) at_284 rfl 285 rfl ?_
      refine own_icmp_ne X hx hby at_285 301 288 (by decide) rfl (fun c285 => ?_) (fun c285 => ?_)
      · skip
        refine own_iloadN X hx hby p3 at_301 rfl 302 rfl ?_
        refine own_i2s X hx hby at_302 303 rfl ?_
        refine own_istore X hx hby at_303 rfl (l' := #[.val (.int p1), .val (.int p2), .val (.int p3), .val (.ref b2), .val (.ref b100), .val (.ref b170), .val (.int (1 : Int32)), .val (.int v254), .val (.int v261), .val (.int (p3.toInt16.toInt32)), .unset, .unset]) rfl 305 rfl ?_
        exact J266 _ (by rw [if_neg c266, if_neg c285])
      · skip
        refine own_aload X hx hby (.ref b170) at_288 rfl rfl 290 rfl ?_
        refine own_iload X hx hby (1 : Int32) at_290 rfl 292 rfl ?_
        refine own_iaload X hx hby hZ (11 : Int32) eT A_b170 (by decide) rfl at_292 293 rfl ?_
        refine own_iload X hx hby v261 at_293 rfl 295 rfl ?_
        refine own_iadd X hx hby at_295 296 rfl ?_
        refine own_istore X hx hby at_296 rfl (l' := #[.val (.int p1), .val (.int p2), .val (.int p3), .val (.ref b2), .val (.ref b100), .val (.ref b170), .val (.int (1 : Int32)), .val (.int v254), .val (.int v261), .val (.int ((11 : Int32) + v261)), .unset, .unset]) rfl 298 rfl ?_
        refine own_goto X hx hby at_298 305 (by decide) ?_
        exact J266 _ (by rw [if_neg c266, if_pos c285])
    · skip
      refine own_aload X hx hby (.ref b100) at_269 rfl rfl 271 rfl ?_
      refine own_iload X hx hby (1 : Int32) at_271 rfl 273 rfl ?_
      refine own_iaload X hx hby hZ (4 : Int32) eT A_b100 (by decide) rfl at_273 274 rfl ?_
      refine own_iload X hx hby v261 at_274 rfl 276 rfl ?_
      refine own_iadd X hx hby at_276 277 rfl ?_
      refine own_istore X hx hby at_277 rfl (l' := #[.val (.int p1), .val (.int p2), .val (.int p3), .val (.ref b2), .val (.ref b100), .val (.ref b170), .val (.int (1 : Int32)), .val (.int v254), .val (.int v261), .val (.int ((4 : Int32) + v261)), .unset, .unset]) rfl 279 rfl ?_
      refine own_goto X hx hby at_279 305 (by decide) ?_
      exact J266 _ (by rw [if_pos c266])
  · skip
    refine own_iloadN X hx hby p2 at_251 rfl 252 rfl ?_
    refine own_iconst X hx hby (3 : Int32) at_252 rfl 253 rfl ?_
    refine own_iand X hx hby at_253 254 rfl ?_
    obtain ⟨v254, e254⟩ : ∃ z : Int32, (p2 &&& (3 : Int32)) = z := ⟨_, rfl⟩
    refine own_istore X hx hby at_254 e254 (l' := #[.val (.int p1), .val (.int p2), .val (.int p3), .val (.ref b2), .val (.ref b100), .val (.ref b170), .val (.int (2 : Int32)), .val (.int v254), .unset, .unset, .unset, .unset]) rfl 256 rfl ?_
    refine own_iloadN X hx hby p3 at_256 rfl 257 rfl ?_
    refine own_iconst X hx hby (3 : Int32) at_257 rfl 258 rfl ?_
    refine own_iand X hx hby at_258 259 rfl ?_
    refine own_iconst X hx hby (1 : Int32) at_259 rfl 260 rfl ?_
    refine own_isub X hx hby at_260 261 rfl ?_
    obtain ⟨v261, e261⟩ : ∃ z : Int32, ((p3 &&& (3 : Int32)) - (1 : Int32)) = z := ⟨_, rfl⟩
    refine own_istore X hx hby at_261 e261 (l' := #[.val (.int p1), .val (.int p2), .val (.int p3), .val (.ref b2), .val (.ref b100), .val (.ref b170), .val (.int (2 : Int32)), .val (.int v254), .val (.int v261), .unset, .unset, .unset]) rfl 263 rfl ?_
    refine own_iload X hx hby v254 at_263 rfl 265 rfl ?_
    refine own_iconst X hx hby (1 : Int32) at_265 rfl 266 rfl ?_
    have J266 : ∀ (j266_0 : Int32), j266_0 = (if v254 = (1 : Int32) then ((1 : Int32) + v261) else (if v254 = (2 : Int32) then ((2 : Int32) + v261) else (p3.toInt16.toInt32))) → Go p e below (FinQ s (Q0 Z p1 p2 p3 u_PRODUCE u_FETCH u_LIST_OFFSETS u_METADATA u_OFFSET_COMMIT u_OFFSET_FETCH u_FIND_COORDINATOR u_JOIN_GROUP u_HEARTBEAT u_LEAVE_GROUP u_SYNC_GROUP u_DESCRIBE_GROUPS u_LIST_GROUPS u_API_VERSIONS h0 n0) room_1.cells room_1.slots) T239 (mkF m 305 #[.val (.int p1), .val (.int p2), .val (.int p3), .val (.ref b2), .val (.ref b100), .val (.ref b170), .val (.int (2 : Int32)), .val (.int v254), .val (.int v261), .val (.int j266_0), .unset, .unset] []) := by
      intro j266_0 ej266_0
      refine own_iload X hx hby j266_0 at_305 rfl 307 rfl ?_
      refine own_i2s X hx hby at_307 308 rfl ?_
      obtain ⟨v308, e308⟩ : ∃ z : Int32, (j266_0.toInt16.toInt32) = z := ⟨_, rfl⟩
      refine own_istore X hx hby at_308 e308 (l' := #[.val (.int p1), .val (.int p2), .val (.int p3), .val (.ref b2), .val (.ref b100), .val (.ref b170), .val (.int (2 : Int32)), .val (.int v254), .val (.int v261), .val (.int j266_0), .val (.int v308), .unset]) rfl 310 rfl ?_
      refine own_iload X hx hby j266_0 at_310 rfl 312 rfl ?_
      refine own_aload X hx hby (.ref b100) at_312 rfl rfl 314 rfl ?_
      refine own_iload X hx hby (2 : Int32) at_314 rfl 316 rfl ?_
      refine own_iaload X hx hby hZ (1 : Int32) eT A_b100 (by decide) rfl at_316 317 rfl ?_
      have J317 : ∀ (j317_0 : Int32), j317_0 = (if j266_0 < (1 : Int32) then (0 : Int32) else (if (2 : Int32) < j266_0 then (0 : Int32) else (1 : Int32))) → Go p e below (FinQ s (Q0 Z p1 p2 p3 u_PRODUCE u_FETCH u_LIST_OFFSETS u_METADATA u_OFFSET_COMMIT u_OFFSET_FETCH u_FIND_COORDINATOR u_JOIN_GROUP u_HEARTBEAT u_LEAVE_GROUP u_SYNC_GROUP u_DESCRIBE_GROUPS u_LIST_GROUPS u_API_VERSIONS h0 n0) room_1.cells room_1.slots) T239 (mkF m 335 #[.val (.int p1), .val (.int p2), .val (.int p3), .val (.ref b2), .val (.ref b100), .val (.ref b170), .val (.int (2 : Int32)), .val (.int v254), .val (.int v261), .val (.int j266_0), .val (.int v308), .unset] [(.int j317_0)]) := by
        intro j317_0 ej317_0
        refine own_istore X hx hby at_335 rfl (l' := #[.val (.int p1), .val (.int p2), .val (.int p3), .val (.ref b2), .val (.ref b100), .val (.ref b170), .val (.int (2 : Int32)), .val (.int v254), .val (.int v261), .val (.int j266_0), .val (.int v308), .val (.int j317_0)]) rfl 337 rfl ?_
        refine own_aloadN X hx hby (.ref b2) at_337 rfl rfl 338 rfl ?_
        refine own_iload X hx hby (2 : Int32) at_338 rfl 340 rfl ?_
        refine own_aaload X hx hby hZ (.ref u_LIST_OFFSETS) eT A_b2 rfl (by decide) rfl at_340 341 rfl ?_
        refine own_iload X hx hby v308 at_341 rfl 343 rfl ?_
        refine own_callV X hx hby hZ (st := []) [(.int v308)] rfl hown (hw _ (List.mem_of_getElem? (i := 34) rfl)) (hw _ (List.mem_of_getElem? (i := 35) rfl)) (hw _ (List.mem_of_getElem? (i := 37) rfl)) (hw _ (List.mem_of_getElem? (i := 36) rfl)) (hw _ (List.mem_of_getElem? (i := 3) rfl)) (hw _ (List.mem_of_getElem? (i := 38) rfl)) (E_u_LIST_OFFSETS.ext (own_ext0 K)) (by decide) at_343 (rm1 l Z a0 hw u_LIST_OFFSETS v308 (1 : Int32) (2 : Int32) h239 n0 Zs (F_minVersion_u_LIST_OFFSETS.ext (own_ext0 K)) (F_maxVersion_u_LIST_OFFSETS.ext (own_ext0 K))) eT pd_0 rfl (by rw [hml]; rfl) (by decide) 0 rfl (by decide) (by decide) (by decide) 346 rfl ?_
        intro T343 L9 v9 X hQ
        obtain ⟨rfl, N9, eT⟩ := hQ
        have N := Fr.app N N9
        show Go p e below _ T343 (mkF m 346 #[.val (.int p1), .val (.int p2), .val (.int p3), .val (.ref b2), .val (.ref b100), .val (.ref b170), .val (.int (2 : Int32)), .val (.int v254), .val (.int v261), .val (.int j266_0), .val (.int v308), .val (.int j317_0)] [(.int (f1 v308 (1 : Int32) (2 : Int32)))])
        refine own_iload X hx hby j317_0 at_346 rfl 348 rfl ?_
        have c348 : (f1 v308 (1 : Int32) (2 : Int32)) = j317_0 := own_v _ _ _ _ _ _ _ _ e261 (by decide) (by decide) ej266_0 e308 _ ej317_0
        refine own_icmp_ne X hx hby at_348 355 351 (by decide) rfl (fun q => absurd c348 q) (fun _ => ?_)
        refine own_iconst X hx hby (1 : Int32) at_351 rfl 352 rfl ?_
        refine own_goto X hx hby at_352 356 (by decide) ?_
        refine own_retN X hx hby hret hlk (t := .boolean) (z' := (1 : Int32)) (by simp) at_356 (by decide) (by decide) rfl ?_
        rw [eT]
        exact ⟨rfl, N⟩
      refine own_icmp_lt X hx hby at_317 334 320 (by decide) rfl (fun c317 => ?_) (fun c317 => ?_)
      · skip
        refine own_iconst X hx hby (0 : Int32) at_334 rfl 335 rfl ?_
        exact J317 _ (by rw [if_pos c317])
      · skip
        refine own_iload X hx hby j266_0 at_320 rfl 322 rfl ?_
        refine own_aload X hx hby (.ref b170) at_322 rfl rfl 324 rfl ?_
        refine own_iload X hx hby (2 : Int32) at_324 rfl 326 rfl ?_
        refine own_iaload X hx hby hZ (2 : Int32) eT A_b170 (by decide) rfl at_326 327 rfl ?_
        refine own_icmp_gt X hx hby at_327 334 330 (by decide) rfl (fun c327 => ?_) (fun c327 => ?_)
        · skip
          refine own_iconst X hx hby (0 : Int32) at_334 rfl 335 rfl ?_
          exact J317 _ (by rw [if_neg c317, if_pos c327])
        · skip
          refine own_iconst X hx hby (1 : Int32) at_330 rfl 331 rfl ?_
          refine own_goto X hx hby at_331 335 (by decide) ?_
          exact J317 _ (by rw [if_neg c317, if_neg c327])
    refine own_icmp_ne X hx hby at_266 282 269 (by decide) rfl (fun c266 => ?_) (fun c266 => ?_)
    · skip
      refine own_iload X hx hby v254 at_282 rfl 284 rfl ?_
      refine own_iconst X hx hby (2 : Int32) at_284 rfl 285 rfl ?_
      refine own_icmp_ne X hx hby at_285 301 288 (by decide) rfl (fun c285 => ?_) (fun c285 => ?_)
      · skip
        refine own_iloadN X hx hby p3 at_301 rfl 302 rfl ?_
        refine own_i2s X hx hby at_302 303 rfl ?_
        refine own_istore X hx hby at_303 rfl (l' := #[.val (.int p1), .val (.int p2), .val (.int p3), .val (.ref b2), .val (.ref b100), .val (.ref b170), .val (.int (2 : Int32)), .val (.int v254), .val (.int v261), .val (.int (p3.toInt16.toInt32)), .unset, .unset]) rfl 305 rfl ?_
        exact J266 _ (by rw [if_neg c266, if_neg c285])
      · skip
        refine own_aload X hx hby (.ref b170) at_288 rfl rfl 290 rfl ?_
        refine own_iload X hx hby (2 : Int32) at_290 rfl 292 rfl ?_
        refine own_iaload X hx hby hZ (2 : Int32) eT A_b170 (by decide) rfl at_292 293 rfl ?_
        refine own_iload X hx hby v261 at_293 rfl 295 rfl ?_
        refine own_iadd X hx hby at_295 296 rfl ?_
        refine own_istore X hx hby at_296 rfl (l' := #[.val (.int p1), .val (.int p2), .val (.int p3), .val (.ref b2), .val (.ref b100), .val (.ref b170), .val (.int (2 : Int32)), .val (.int v254), .val (.int v261), .val (.int ((2 : Int32) + v261)), .unset, .unset]) rfl 298 rfl ?_
        refine own_goto X hx hby at_298 305 (by decide) ?_
        exact J266 _ (by rw [if_neg c266, if_pos c285])
    · skip
      refine own_aload X hx hby (.ref b100) at_269 rfl rfl 271 rfl ?_
      refine own_iload X hx hby (2 : Int32) at_271 rfl 273 rfl ?_
      refine own_iaload X hx hby hZ (1 : Int32) eT A_b100 (by decide) rfl at_273 274 rfl ?_
      refine own_iload X hx hby v261 at_274 rfl 276 rfl ?_
      refine own_iadd X hx hby at_276 277 rfl ?_
      refine own_istore X hx hby at_277 rfl (l' := #[.val (.int p1), .val (.int p2), .val (.int p3), .val (.ref b2), .val (.ref b100), .val (.ref b170), .val (.int (2 : Int32)), .val (.int v254), .val (.int v261), .val (.int ((1 : Int32) + v261)), .unset, .unset]) rfl 279 rfl ?_
      refine own_goto X hx hby at_279 305 (by decide) ?_
      exact J266 _ (by rw [if_pos c266])
  · skip
    refine own_iloadN X hx hby p2 at_251 rfl 252 rfl ?_
    refine own_iconst X hx hby (3 : Int32) at_252 rfl 253 rfl ?_
    refine own_iand X hx hby at_253 254 rfl ?_
    obtain ⟨v254, e254⟩ : ∃ z : Int32, (p2 &&& (3 : Int32)) = z := ⟨_, rfl⟩
    refine own_istore X hx hby at_254 e254 (l' := #[.val (.int p1), .val (.int p2), .val (.int p3), .val (.ref b2), .val (.ref b100), .val (.ref b170), .val (.int (3 : Int32)), .val (.int v254), .unset, .unset, .unset, .unset]) rfl 256 rfl ?_
    refine own_iloadN X hx hby p3 at_256 rfl 257 rfl ?_
    refine own_iconst X hx hby (3 : Int32) at_257 rfl 258 rfl ?_
    refine own_iand X hx hby at_258 259 rfl ?_
    refine own_iconst X hx hby (1 : Int32) at_259 rfl 260 rfl ?_
    refine own_isub X hx hby at_260 261 rfl ?_
    obtain ⟨v261, e261⟩ : ∃ z : Int32, ((p3 &&& (3 : Int32)) - (1 : Int32)) = z := ⟨_, rfl⟩
    refine own_istore X hx hby at_261 e261 (l' := #[.val (.int p1), .val (.int p2), .val (.int p3), .val (.ref b2), .val (.ref b100), .val (.ref b170), .val (.int (3 : Int32)), .val (.int v254), .val (.int v261), .unset, .unset, .unset]) rfl 263 rfl ?_
    refine own_iload X hx hby v254 at_263 rfl 265 rfl ?_
    refine own_iconst X hx hby (1 : Int32) at_265 rfl 266 rfl ?_
    have J266 : ∀ (j266_0 : Int32), j266_0 = (if v254 = (1 : Int32) then ((0 : Int32) + v261) else (if v254 = (2 : Int32) then ((4 : Int32) + v261) else (p3.toInt16.toInt32))) → Go p e below (FinQ s (Q0 Z p1 p2 p3 u_PRODUCE u_FETCH u_LIST_OFFSETS u_METADATA u_OFFSET_COMMIT u_OFFSET_FETCH u_FIND_COORDINATOR u_JOIN_GROUP u_HEARTBEAT u_LEAVE_GROUP u_SYNC_GROUP u_DESCRIBE_GROUPS u_LIST_GROUPS u_API_VERSIONS h0 n0) room_1.cells room_1.slots) T239 (mkF m 305 #[.val (.int p1), .val (.int p2), .val (.int p3), .val (.ref b2), .val (.ref b100), .val (.ref b170), .val (.int (3 : Int32)), .val (.int v254), .val (.int v261), .val (.int j266_0), .unset, .unset] []) := by
      intro j266_0 ej266_0
      refine own_iload X hx hby j266_0 at_305 rfl 307 rfl ?_
      refine own_i2s X hx hby at_307 308 rfl ?_
      obtain ⟨v308, e308⟩ : ∃ z : Int32, (j266_0.toInt16.toInt32) = z := ⟨_, rfl⟩
      refine own_istore X hx hby at_308 e308 (l' := #[.val (.int p1), .val (.int p2), .val (.int p3), .val (.ref b2), .val (.ref b100), .val (.ref b170), .val (.int (3 : Int32)), .val (.int v254), .val (.int v261), .val (.int j266_0), .val (.int v308), .unset]) rfl 310 rfl ?_
      refine own_iload X hx hby j266_0 at_310 rfl 312 rfl ?_
      refine own_aload X hx hby (.ref b100) at_312 rfl rfl 314 rfl ?_
      refine own_iload X hx hby (3 : Int32) at_314 rfl 316 rfl ?_
      refine own_iaload X hx hby hZ (0 : Int32) eT A_b100 (by decide) rfl at_316 317 rfl ?_
      have J317 : ∀ (j317_0 : Int32), j317_0 = (if j266_0 < (0 : Int32) then (0 : Int32) else (if (4 : Int32) < j266_0 then (0 : Int32) else (1 : Int32))) → Go p e below (FinQ s (Q0 Z p1 p2 p3 u_PRODUCE u_FETCH u_LIST_OFFSETS u_METADATA u_OFFSET_COMMIT u_OFFSET_FETCH u_FIND_COORDINATOR u_JOIN_GROUP u_HEARTBEAT u_LEAVE_GROUP u_SYNC_GROUP u_DESCRIBE_GROUPS u_LIST_GROUPS u_API_VERSIONS h0 n0) room_1.cells room_1.slots) T239 (mkF m 335 #[.val (.int p1), .val (.int p2), .val (.int p3), .val (.ref b2), .val (.ref b100), .val (.ref b170), .val (.int (3 : Int32)), .val (.int v254), .val (.int v261), .val (.int j266_0), .val (.int v308), .unset] [(.int j317_0)]) := by
        intro j317_0 ej317_0
        refine own_istore X hx hby at_335 rfl (l' := #[.val (.int p1), .val (.int p2), .val (.int p3), .val (.ref b2), .val (.ref b100), .val (.ref b170), .val (.int (3 : Int32)), .val (.int v254), .val (.int v261), .val (.int j266_0), .val (.int v308), .val (.int j317_0)]) rfl 337 rfl ?_
        refine own_aloadN X hx hby (.ref b2) at_337 rfl rfl 338 rfl ?_
        refine own_iload X hx hby (3 : Int32) at_338 rfl 340 rfl ?_
        refine own_aaload X hx hby hZ (.ref u_METADATA) eT A_b2 rfl (by decide) rfl at_340 341 rfl ?_
        refine own_iload X hx hby v308 at_341 rfl 343 rfl ?_
        refine own_callV X hx hby hZ (st := []) [(.int v308)] rfl hown (hw _ (List.mem_of_getElem? (i := 34) rfl)) (hw _ (List.mem_of_getElem? (i := 35) rfl)) (hw _ (List.mem_of_getElem? (i := 37) rfl)) (hw _ (List.mem_of_getElem? (i := 36) rfl)) (hw _ (List.mem_of_getElem? (i := 3) rfl)) (hw _ (List.mem_of_getElem? (i := 38) rfl)) (E_u_METADATA.ext (own_ext0 K)) (by decide) at_343 (rm1 l Z a0 hw u_METADATA v308 (0 : Int32) (4 : Int32) h239 n0 Zs (F_minVersion_u_METADATA.ext (own_ext0 K)) (F_maxVersion_u_METADATA.ext (own_ext0 K))) eT pd_0 rfl (by rw [hml]; rfl) (by decide) 0 rfl (by decide) (by decide) (by decide) 346 rfl ?_
        intro T343 L9 v9 X hQ
        obtain ⟨rfl, N9, eT⟩ := hQ
        have N := Fr.app N N9
        show Go p e below _ T343 (mkF m 346 #[.val (.int p1), .val (.int p2), .val (.int p3), .val (.ref b2), .val (.ref b100), .val (.ref b170), .val (.int (3 : Int32)), .val (.int v254), .val (.int v261), .val (.int j266_0), .val (.int v308), .val (.int j317_0)] [(.int (f1 v308 (0 : Int32) (4 : Int32)))])
        refine own_iload X hx hby j317_0 at_346 rfl 348 rfl ?_
        have c348 : (f1 v308 (0 : Int32) (4 : Int32)) = j317_0 := own_v _ _ _ _ _ _ _ _ e261 (by decide) (by decide) ej266_0 e308 _ ej317_0
        refine own_icmp_ne X hx hby at_348 355 351 (by decide) rfl (fun q => absurd c348 q) (fun _ => ?_)
        refine own_iconst X hx hby (1 : Int32) at_351 rfl 352 rfl ?_
        refine own_goto X hx hby at_352 356 (by decide) ?_
        refine own_retN X hx hby hret hlk (t := .boolean) (z' := (1 : Int32)) (by simp) at_356 (by decide) (by decide) rfl ?_
        rw [eT]
        exact ⟨rfl, N⟩
      refine own_icmp_lt X hx hby at_317 334 320 (by decide) rfl (fun c317 => ?_) (fun c317 => ?_)
      · skip
        refine own_iconst X hx hby (0 : Int32) at_334 rfl 335 rfl ?_
        exact J317 _ (by rw [if_pos c317])
      · skip
        refine own_iload X hx hby j266_0 at_320 rfl 322 rfl ?_
        refine own_aload X hx hby (.ref b170) at_322 rfl rfl 324 rfl ?_
        refine own_iload X hx hby (3 : Int32) at_324 rfl 326 rfl ?_
        refine own_iaload X hx hby hZ (4 : Int32) eT A_b170 (by decide) rfl at_326 327 rfl ?_
        refine own_icmp_gt X hx hby at_327 334 330 (by decide) rfl (fun c327 => ?_) (fun c327 => ?_)
        · skip
          refine own_iconst X hx hby (0 : Int32) at_334 rfl 335 rfl ?_
          exact J317 _ (by rw [if_neg c317, if_pos c327])
        · skip
          refine own_iconst X hx hby (1 : Int32) at_330 rfl 331 rfl ?_
          refine own_goto X hx hby at_331 335 (by decide) ?_
          exact J317 _ (by rw [if_neg c317, if_neg c327])
    refine own_icmp_ne X hx hby at_266 282 269 (by decide) rfl (fun c266 => ?_) (fun c266 => ?_)
    · skip
      refine own_iload X hx hby v254 at_282 rfl 284 rfl ?_
      refine own_iconst X hx hby (2 : Int32) at_284 rfl 285 rfl ?_
      refine own_icmp_ne X hx hby at_285 301 288 (by decide) rfl (fun c285 => ?_) (fun c285 => ?_)
      · skip
        refine own_iloadN X hx hby p3 at_301 rfl 302 rfl ?_
        refine own_i2s X hx hby at_302 303 rfl ?_
        refine own_istore X hx hby at_303 rfl (l' := #[.val (.int p1), .val (.int p2), .val (.int p3), .val (.ref b2), .val (.ref b100), .val (.ref b170), .val (.int (3 : Int32)), .val (.int v254), .val (.int v261), .val (.int (p3.toInt16.toInt32)), .unset, .unset]) rfl 305 rfl ?_
        exact J266 _ (by rw [if_neg c266, if_neg c285])
      · skip
        refine own_aload X hx hby (.ref b170) at_288 rfl rfl 290 rfl ?_
        refine own_iload X hx hby (3 : Int32) at_290 rfl 292 rfl ?_
        refine own_iaload X hx hby hZ (4 : Int32) eT A_b170 (by decide) rfl at_292 293 rfl ?_
        refine own_iload X hx hby v261 at_293 rfl 295 rfl ?_
        refine own_iadd X hx hby at_295 296 rfl ?_
        refine own_istore X hx hby at_296 rfl (l' := #[.val (.int p1), .val (.int p2), .val (.int p3), .val (.ref b2), .val (.ref b100), .val (.ref b170), .val (.int (3 : Int32)), .val (.int v254), .val (.int v261), .val (.int ((4 : Int32) + v261)), .unset, .unset]) rfl 298 rfl ?_
        refine own_goto X hx hby at_298 305 (by decide) ?_
        exact J266 _ (by rw [if_neg c266, if_pos c285])
    · skip
      refine own_aload X hx hby (.ref b100) at_269 rfl rfl 271 rfl ?_
      refine own_iload X hx hby (3 : Int32) at_271 rfl 273 rfl ?_
      refine own_iaload X hx hby hZ (0 : Int32) eT A_b100 (by decide) rfl at_273 274 rfl ?_
      refine own_iload X hx hby v261 at_274 rfl 276 rfl ?_
      refine own_iadd X hx hby at_276 277 rfl ?_
      refine own_istore X hx hby at_277 rfl (l' := #[.val (.int p1), .val (.int p2), .val (.int p3), .val (.ref b2), .val (.ref b100), .val (.ref b170), .val (.int (3 : Int32)), .val (.int v254), .val (.int v261), .val (.int ((0 : Int32) + v261)), .unset, .unset]) rfl 279 rfl ?_
      refine own_goto X hx hby at_279 305 (by decide) ?_
      exact J266 _ (by rw [if_pos c266])
  · skip
    refine own_iloadN X hx hby p2 at_251 rfl 252 rfl ?_
    refine own_iconst X hx hby (3 : Int32) at_252 rfl 253 rfl ?_
    refine own_iand X hx hby at_253 254 rfl ?_
    obtain ⟨v254, e254⟩ : ∃ z : Int32, (p2 &&& (3 : Int32)) = z := ⟨_, rfl⟩
    refine own_istore X hx hby at_254 e254 (l' := #[.val (.int p1), .val (.int p2), .val (.int p3), .val (.ref b2), .val (.ref b100), .val (.ref b170), .val (.int (4 : Int32)), .val (.int v254), .unset, .unset, .unset, .unset]) rfl 256 rfl ?_
    refine own_iloadN X hx hby p3 at_256 rfl 257 rfl ?_
    refine own_iconst X hx hby (3 : Int32) at_257 rfl 258 rfl ?_
    refine own_iand X hx hby at_258 259 rfl ?_
    refine own_iconst X hx hby (1 : Int32) at_259 rfl 260 rfl ?_
    refine own_isub X hx hby at_260 261 rfl ?_
    obtain ⟨v261, e261⟩ : ∃ z : Int32, ((p3 &&& (3 : Int32)) - (1 : Int32)) = z := ⟨_, rfl⟩
    refine own_istore X hx hby at_261 e261 (l' := #[.val (.int p1), .val (.int p2), .val (.int p3), .val (.ref b2), .val (.ref b100), .val (.ref b170), .val (.int (4 : Int32)), .val (.int v254), .val (.int v261), .unset, .unset, .unset]) rfl 263 rfl ?_
    refine own_iload X hx hby v254 at_263 rfl 265 rfl ?_
    refine own_iconst X hx hby (1 : Int32) at_265 rfl 266 rfl ?_
    have J266 : ∀ (j266_0 : Int32), j266_0 = (if v254 = (1 : Int32) then ((2 : Int32) + v261) else (if v254 = (2 : Int32) then ((7 : Int32) + v261) else (p3.toInt16.toInt32))) → Go p e below (FinQ s (Q0 Z p1 p2 p3 u_PRODUCE u_FETCH u_LIST_OFFSETS u_METADATA u_OFFSET_COMMIT u_OFFSET_FETCH u_FIND_COORDINATOR u_JOIN_GROUP u_HEARTBEAT u_LEAVE_GROUP u_SYNC_GROUP u_DESCRIBE_GROUPS u_LIST_GROUPS u_API_VERSIONS h0 n0) room_1.cells room_1.slots) T239 (mkF m 305 #[.val (.int p1), .val (.int p2), .val (.int p3), .val (.ref b2), .val (.ref b100), .val (.ref b170), .val (.int (4 : Int32)), .val (.int v254), .val (.int v261), .val (.int j266_0), .unset, .unset] []) := by
      intro j266_0 ej266_0
      refine own_iload X hx hby j266_0 at_305 rfl 307 rfl ?_
      refine own_i2s X hx hby at_307 308 rfl ?_
      obtain ⟨v308, e308⟩ : ∃ z : Int32, (j266_0.toInt16.toInt32) = z := ⟨_, rfl⟩
      refine own_istore X hx hby at_308 e308 (l' := #[.val (.int p1), .val (.int p2), .val (.int p3), .val (.ref b2), .val (.ref b100), .val (.ref b170), .val (.int (4 : Int32)), .val (.int v254), .val (.int v261), .val (.int j266_0), .val (.int v308), .unset]) rfl 310 rfl ?_
      refine own_iload X hx hby j266_0 at_310 rfl 312 rfl ?_
      refine own_aload X hx hby (.ref b100) at_312 rfl rfl 314 rfl ?_
      refine own_iload X hx hby (4 : Int32) at_314 rfl 316 rfl ?_
      refine own_iaload X hx hby hZ (2 : Int32) eT A_b100 (by decide) rfl at_316 317 rfl ?_
      have J317 : ∀ (j317_0 : Int32), j317_0 = (if j266_0 < (2 : Int32) then (0 : Int32) else (if (7 : Int32) < j266_0 then (0 : Int32) else (1 : Int32))) → Go p e below (FinQ s (Q0 Z p1 p2 p3 u_PRODUCE u_FETCH u_LIST_OFFSETS u_METADATA u_OFFSET_COMMIT u_OFFSET_FETCH u_FIND_COORDINATOR u_JOIN_GROUP u_HEARTBEAT u_LEAVE_GROUP u_SYNC_GROUP u_DESCRIBE_GROUPS u_LIST_GROUPS u_API_VERSIONS h0 n0) room_1.cells room_1.slots) T239 (mkF m 335 #[.val (.int p1), .val (.int p2), .val (.int p3), .val (.ref b2), .val (.ref b100), .val (.ref b170), .val (.int (4 : Int32)), .val (.int v254), .val (.int v261), .val (.int j266_0), .val (.int v308), .unset] [(.int j317_0)]) := by
        intro j317_0 ej317_0
        refine own_istore X hx hby at_335 rfl (l' := #[.val (.int p1), .val (.int p2), .val (.int p3), .val (.ref b2), .val (.ref b100), .val (.ref b170), .val (.int (4 : Int32)), .val (.int v254), .val (.int v261), .val (.int j266_0), .val (.int v308), .val (.int j317_0)]) rfl 337 rfl ?_
        refine own_aloadN X hx hby (.ref b2) at_337 rfl rfl 338 rfl ?_
        refine own_iload X hx hby (4 : Int32) at_338 rfl 340 rfl ?_
        refine own_aaload X hx hby hZ (.ref u_OFFSET_COMMIT) eT A_b2 rfl (by decide) rfl at_340 341 rfl ?_
        refine own_iload X hx hby v308 at_341 rfl 343 rfl ?_
        refine own_callV X hx hby hZ (st := []) [(.int v308)] rfl hown (hw _ (List.mem_of_getElem? (i := 34) rfl)) (hw _ (List.mem_of_getElem? (i := 35) rfl)) (hw _ (List.mem_of_getElem? (i := 37) rfl)) (hw _ (List.mem_of_getElem? (i := 36) rfl)) (hw _ (List.mem_of_getElem? (i := 3) rfl)) (hw _ (List.mem_of_getElem? (i := 38) rfl)) (E_u_OFFSET_COMMIT.ext (own_ext0 K)) (by decide) at_343 (rm1 l Z a0 hw u_OFFSET_COMMIT v308 (2 : Int32) (7 : Int32) h239 n0 Zs (F_minVersion_u_OFFSET_COMMIT.ext (own_ext0 K)) (F_maxVersion_u_OFFSET_COMMIT.ext (own_ext0 K))) eT pd_0 rfl (by rw [hml]; rfl) (by decide) 0 rfl (by decide) (by decide) (by decide) 346 rfl ?_
        intro T343 L9 v9 X hQ
        obtain ⟨rfl, N9, eT⟩ := hQ
        have N := Fr.app N N9
        show Go p e below _ T343 (mkF m 346 #[.val (.int p1), .val (.int p2), .val (.int p3), .val (.ref b2), .val (.ref b100), .val (.ref b170), .val (.int (4 : Int32)), .val (.int v254), .val (.int v261), .val (.int j266_0), .val (.int v308), .val (.int j317_0)] [(.int (f1 v308 (2 : Int32) (7 : Int32)))])
        refine own_iload X hx hby j317_0 at_346 rfl 348 rfl ?_
        have c348 : (f1 v308 (2 : Int32) (7 : Int32)) = j317_0 := own_v _ _ _ _ _ _ _ _ e261 (by decide) (by decide) ej266_0 e308 _ ej317_0
        refine own_icmp_ne X hx hby at_348 355 351 (by decide) rfl (fun q => absurd c348 q) (fun _ => ?_)
        refine own_iconst X hx hby (1 : Int32) at_351 rfl 352 rfl ?_
        refine own_goto X hx hby at_352 356 (by decide) ?_
        refine own_retN X hx hby hret hlk (t := .boolean) (z' := (1 : Int32)) (by simp) at_356 (by decide) (by decide) rfl ?_
        rw [eT]
        exact ⟨rfl, N⟩
      refine own_icmp_lt X hx hby at_317 334 320 (by decide) rfl (fun c317 => ?_) (fun c317 => ?_)
      · skip
        refine own_iconst X hx hby (0 : Int32) at_334 rfl 335 rfl ?_
        exact J317 _ (by rw [if_pos c317])
      · skip
        refine own_iload X hx hby j266_0 at_320 rfl 322 rfl ?_
        refine own_aload X hx hby (.ref b170) at_322 rfl rfl 324 rfl ?_
        refine own_iload X hx hby (4 : Int32) at_324 rfl 326 rfl ?_
        refine own_iaload X hx hby hZ (7 : Int32) eT A_b170 (by decide) rfl at_326 327 rfl ?_
        refine own_icmp_gt X hx hby at_327 334 330 (by decide) rfl (fun c327 => ?_) (fun c327 => ?_)
        · skip
          refine own_iconst X hx hby (0 : Int32) at_334 rfl 335 rfl ?_
          exact J317 _ (by rw [if_neg c317, if_pos c327])
        · skip
          refine own_iconst X hx hby (1 : Int32) at_330 rfl 331 rfl ?_
          refine own_goto X hx hby at_331 335 (by decide) ?_
          exact J317 _ (by rw [if_neg c317, if_neg c327])
    refine own_icmp_ne X hx hby at_266 282 269 (by decide) rfl (fun c266 => ?_) (fun c266 => ?_)
    · skip
      refine own_iload X hx hby v254 at_282 rfl 284 rfl ?_
      refine own_iconst X hx hby (2 : Int32) at_284 rfl 285 rfl ?_
      refine own_icmp_ne X hx hby at_285 301 288 (by decide) rfl (fun c285 => ?_) (fun c285 => ?_)
      · skip
        refine own_iloadN X hx hby p3 at_301 rfl 302 rfl ?_
        refine own_i2s X hx hby at_302 303 rfl ?_
        refine own_istore X hx hby at_303 rfl (l' := #[.val (.int p1), .val (.int p2), .val (.int p3), .val (.ref b2), .val (.ref b100), .val (.ref b170), .val (.int (4 : Int32)), .val (.int v254), .val (.int v261), .val (.int (p3.toInt16.toInt32)), .unset, .unset]) rfl 305 rfl ?_
        exact J266 _ (by rw [if_neg c266, if_neg c285])
      · skip
        refine own_aload X hx hby (.ref b170) at_288 rfl rfl 290 rfl ?_
        refine own_iload X hx hby (4 : Int32) at_290 rfl 292 rfl ?_
        refine own_iaload X hx hby hZ (7 : Int32) eT A_b170 (by decide) rfl at_292 293 rfl ?_
        refine own_iload X hx hby v261 at_293 rfl 295 rfl ?_
        refine own_iadd X hx hby at_295 296 rfl ?_
        refine own_istore X hx hby at_296 rfl (l' := #[.val (.int p1), .val (.int p2), .val (.int p3), .val (.ref b2), .val (.ref b100), .val (.ref b170), .val (.int (4 : Int32)), .val (.int v254), .val (.int v261), .val (.int ((7 : Int32) + v261)), .unset, .unset]) rfl 298 rfl ?_
        refine own_goto X hx hby at_298 305 (by decide) ?_
        exact J266 _ (by rw [if_neg c266, if_pos c285])
    · skip
      refine own_aload X hx hby (.ref b100) at_269 rfl rfl 271 rfl ?_
      refine own_iload X hx hby (4 : Int32) at_271 rfl 273 rfl ?_
      refine own_iaload X hx hby hZ (2 : Int32) eT A_b100 (by decide) rfl at_273 274 rfl ?_
      refine own_iload X hx hby v261 at_274 rfl 276 rfl ?_
      refine own_iadd X hx hby at_276 277 rfl ?_
      refine own_istore X hx hby at_277 rfl (l' := #[.val (.int p1), .val (.int p2), .val (.int p3), .val (.ref b2), .val (.ref b100), .val (.ref b170), .val (.int (4 : Int32)), .val (.int v254), .val (.int v261), .val (.int ((2 : Int32) + v261)), .unset, .unset]) rfl 279 rfl ?_
      refine own_goto X hx hby at_279 305 (by decide) ?_
      exact J266 _ (by rw [if_pos c266])
  · skip
    refine own_iloadN X hx hby p2 at_251 rfl 252 rfl ?_
    refine own_iconst X hx hby (3 : Int32) at_252 rfl 253 rfl ?_
    refine own_iand X hx hby at_253 254 rfl ?_
    obtain ⟨v254, e254⟩ : ∃ z : Int32, (p2 &&& (3 : Int32)) = z := ⟨_, rfl⟩
    refine own_istore X hx hby at_254 e254 (l' := #[.val (.int p1), .val (.int p2), .val (.int p3), .val (.ref b2), .val (.ref b100), .val (.ref b170), .val (.int (5 : Int32)), .val (.int v254), .unset, .unset, .unset, .unset]) rfl 256 rfl ?_
    refine own_iloadN X hx hby p3 at_256 rfl 257 rfl ?_
    refine own_iconst X hx hby (3 : Int32) at_257 rfl 258 rfl ?_
    refine own_iand X hx hby at_258 259 rfl ?_
    refine own_iconst X hx hby (1 : Int32) at_259 rfl 260 rfl ?_
    refine own_isub X hx hby at_260 261 rfl ?_
    obtain ⟨v261, e261⟩ : ∃ z : Int32, ((p3 &&& (3 : Int32)) - (1 : Int32)) = z := ⟨_, rfl⟩
    refine own_istore X hx hby at_261 e261 (l' := #[.val (.int p1), .val (.int p2), .val (.int p3), .val (.ref b2), .val (.ref b100), .val (.ref b170), .val (.int (5 : Int32)), .val (.int v254), .val (.int v261), .unset, .unset, .unset]) rfl 263 rfl ?_
    refine own_iload X hx hby v254 at_263 rfl 265 rfl ?_
    refine own_iconst X hx hby (1 : Int32) at_265 rfl 266 rfl ?_
    have J266 : ∀ (j266_0 : Int32), j266_0 = (if v254 = (1 : Int32) then ((1 : Int32) + v261) else (if v254 = (2 : Int32) then ((7 : Int32) + v261) else (p3.toInt16.toInt32))) → Go p e below (FinQ s (Q0 Z p1 p2 p3 u_PRODUCE u_FETCH u_LIST_OFFSETS u_METADATA u_OFFSET_COMMIT u_OFFSET_FETCH u_FIND_COORDINATOR u_JOIN_GROUP u_HEARTBEAT u_LEAVE_GROUP u_SYNC_GROUP u_DESCRIBE_GROUPS u_LIST_GROUPS u_API_VERSIONS h0 n0) room_1.cells room_1.slots) T239 (mkF m 305 #[.val (.int p1), .val (.int p2), .val (.int p3), .val (.ref b2), .val (.ref b100), .val (.ref b170), .val (.int (5 : Int32)), .val (.int v254), .val (.int v261), .val (.int j266_0), .unset, .unset] []) := by
      intro j266_0 ej266_0
      refine own_iload X hx hby j266_0 at_305 rfl 307 rfl ?_
      refine own_i2s X hx hby at_307 308 rfl ?_
      obtain ⟨v308, e308⟩ : ∃ z : Int32, (j266_0.toInt16.toInt32) = z := ⟨_, rfl⟩
      refine own_istore X hx hby at_308 e308 (l' := #[.val (.int p1), .val (.int p2), .val (.int p3), .val (.ref b2), .val (.ref b100), .val (.ref b170), .val (.int (5 : Int32)), .val (.int v254), .val (.int v261), .val (.int j266_0), .val (.int v308), .unset]) rfl 310 rfl ?_
      refine own_iload X hx hby j266_0 at_310 rfl 312 rfl ?_
      refine own_aload X hx hby (.ref b100) at_312 rfl rfl 314 rfl ?_
      refine own_iload X hx hby (5 : Int32) at_314 rfl 316 rfl ?_
      refine own_iaload X hx hby hZ (1 : Int32) eT A_b100 (by decide) rfl at_316 317 rfl ?_
      have J317 : ∀ (j317_0 : Int32), j317_0 = (if j266_0 < (1 : Int32) then (0 : Int32) else (if (7 : Int32) < j266_0 then (0 : Int32) else (1 : Int32))) → Go p e below (FinQ s (Q0 Z p1 p2 p3 u_PRODUCE u_FETCH u_LIST_OFFSETS u_METADATA u_OFFSET_COMMIT u_OFFSET_FETCH u_FIND_COORDINATOR u_JOIN_GROUP u_HEARTBEAT u_LEAVE_GROUP u_SYNC_GROUP u_DESCRIBE_GROUPS u_LIST_GROUPS u_API_VERSIONS h0 n0) room_1.cells room_1.slots) T239 (mkF m 335 #[.val (.int p1), .val (.int p2), .val (.int p3), .val (.ref b2), .val (.ref b100), .val (.ref b170), .val (.int (5 : Int32)), .val (.int v254), .val (.int v261), .val (.int j266_0), .val (.int v308), .unset] [(.int j317_0)]) := by
        intro j317_0 ej317_0
        refine own_istore X hx hby at_335 rfl (l' := #[.val (.int p1), .val (.int p2), .val (.int p3), .val (.ref b2), .val (.ref b100), .val (.ref b170), .val (.int (5 : Int32)), .val (.int v254), .val (.int v261), .val (.int j266_0), .val (.int v308), .val (.int j317_0)]) rfl 337 rfl ?_
        refine own_aloadN X hx hby (.ref b2) at_337 rfl rfl 338 rfl ?_
        refine own_iload X hx hby (5 : Int32) at_338 rfl 340 rfl ?_
        refine own_aaload X hx hby hZ (.ref u_OFFSET_FETCH) eT A_b2 rfl (by decide) rfl at_340 341 rfl ?_
        refine own_iload X hx hby v308 at_341 rfl 343 rfl ?_
        refine own_callV X hx hby hZ (st := []) [(.int v308)] rfl hown (hw _ (List.mem_of_getElem? (i := 34) rfl)) (hw _ (List.mem_of_getElem? (i := 35) rfl)) (hw _ (List.mem_of_getElem? (i := 37) rfl)) (hw _ (List.mem_of_getElem? (i := 36) rfl)) (hw _ (List.mem_of_getElem? (i := 3) rfl)) (hw _ (List.mem_of_getElem? (i := 38) rfl)) (E_u_OFFSET_FETCH.ext (own_ext0 K)) (by decide) at_343 (rm1 l Z a0 hw u_OFFSET_FETCH v308 (1 : Int32) (7 : Int32) h239 n0 Zs (F_minVersion_u_OFFSET_FETCH.ext (own_ext0 K)) (F_maxVersion_u_OFFSET_FETCH.ext (own_ext0 K))) eT pd_0 rfl (by rw [hml]; rfl) (by decide) 0 rfl (by decide) (by decide) (by decide) 346 rfl ?_
        intro T343 L9 v9 X hQ
        obtain ⟨rfl, N9, eT⟩ := hQ
        have N := Fr.app N N9
        show Go p e below _ T343 (mkF m 346 #[.val (.int p1), .val (.int p2), .val (.int p3), .val (.ref b2), .val (.ref b100), .val (.ref b170), .val (.int (5 : Int32)), .val (.int v254), .val (.int v261), .val (.int j266_0), .val (.int v308), .val (.int j317_0)] [(.int (f1 v308 (1 : Int32) (7 : Int32)))])
        refine own_iload X hx hby j317_0 at_346 rfl 348 rfl ?_
        have c348 : (f1 v308 (1 : Int32) (7 : Int32)) = j317_0 := own_v _ _ _ _ _ _ _ _ e261 (by decide) (by decide) ej266_0 e308 _ ej317_0
        refine own_icmp_ne X hx hby at_348 355 351 (by decide) rfl (fun q => absurd c348 q) (fun _ => ?_)
        refine own_iconst X hx hby (1 : Int32) at_351 rfl 352 rfl ?_
        refine own_goto X hx hby at_352 356 (by decide) ?_
        refine own_retN X hx hby hret hlk (t := .boolean) (z' := (1 : Int32)) (by simp) at_356 (by decide) (by decide) rfl ?_
        rw [eT]
        exact ⟨rfl, N⟩
      refine own_icmp_lt X hx hby at_317 334 320 (by decide) rfl (fun c317 => ?_) (fun c317 => ?_)
      · skip
        refine own_iconst X hx hby (0 : Int32) at_334 rfl 335 rfl ?_
        exact J317 _ (by rw [if_pos c317])
      · skip
        refine own_iload X hx hby j266_0 at_320 rfl 322 rfl ?_
        refine own_aload X hx hby (.ref b170) at_322 rfl rfl 324 rfl ?_
        refine own_iload X hx hby (5 : Int32) at_324 rfl 326 rfl ?_
        refine own_iaload X hx hby hZ (7 : Int32) eT A_b170 (by decide) rfl at_326 327 rfl ?_
        refine own_icmp_gt X hx hby at_327 334 330 (by decide) rfl (fun c327 => ?_) (fun c327 => ?_)
        · skip
          refine own_iconst X hx hby (0 : Int32) at_334 rfl 335 rfl ?_
          exact J317 _ (by rw [if_neg c317, if_pos c327])
        · skip
          refine own_iconst X hx hby (1 : Int32) at_330 rfl 331 rfl ?_
          refine own_goto X hx hby at_331 335 (by decide) ?_
          exact J317 _ (by rw [if_neg c317, if_neg c327])
    refine own_icmp_ne X hx hby at_266 282 269 (by decide) rfl (fun c266 => ?_) (fun c266 => ?_)
    · skip
      refine own_iload X hx hby v254 at_282 rfl 284 rfl ?_
      refine own_iconst X hx hby (2 : Int32) at_284 rfl 285 rfl ?_
      refine own_icmp_ne X hx hby at_285 301 288 (by decide) rfl (fun c285 => ?_) (fun c285 => ?_)
      · skip
        refine own_iloadN X hx hby p3 at_301 rfl 302 rfl ?_
        refine own_i2s X hx hby at_302 303 rfl ?_
        refine own_istore X hx hby at_303 rfl (l' := #[.val (.int p1), .val (.int p2), .val (.int p3), .val (.ref b2), .val (.ref b100), .val (.ref b170), .val (.int (5 : Int32)), .val (.int v254), .val (.int v261), .val (.int (p3.toInt16.toInt32)), .unset, .unset]) rfl 305 rfl ?_
        exact J266 _ (by rw [if_neg c266, if_neg c285])
      · skip
        refine own_aload X hx hby (.ref b170) at_288 rfl rfl 290 rfl ?_
        refine own_iload X hx hby (5 : Int32) at_290 rfl 292 rfl ?_
        refine own_iaload X hx hby hZ (7 : Int32) eT A_b170 (by decide) rfl at_292 293 rfl ?_
        refine own_iload X hx hby v261 at_293 rfl 295 rfl ?_
        refine own_iadd X hx hby at_295 296 rfl ?_
        refine own_istore X hx hby at_296 rfl (l' := #[.val (.int p1), .val (.int p2), .val (.int p3), .val (.ref b2), .val (.ref b100), .val (.ref b170), .val (.int (5 : Int32)), .val (.int v254), .val (.int v261), .val (.int ((7 : Int32) + v261)), .unset, .unset]) rfl 298 rfl ?_
        refine own_goto X hx hby at_298 305 (by decide) ?_
        exact J266 _ (by rw [if_neg c266, if_pos c285])
    · skip
      refine own_aload X hx hby (.ref b100) at_269 rfl rfl 271 rfl ?_
      refine own_iload X hx hby (5 : Int32) at_271 rfl 273 rfl ?_
      refine own_iaload X hx hby hZ (1 : Int32) eT A_b100 (by decide) rfl at_273 274 rfl ?_
      refine own_iload X hx hby v261 at_274 rfl 276 rfl ?_
      refine own_iadd X hx hby at_276 277 rfl ?_
      refine own_istore X hx hby at_277 rfl (l' := #[.val (.int p1), .val (.int p2), .val (.int p3), .val (.ref b2), .val (.ref b100), .val (.ref b170), .val (.int (5 : Int32)), .val (.int v254), .val (.int v261), .val (.int ((1 : Int32) + v261)), .unset, .unset]) rfl 279 rfl ?_
      refine own_goto X hx hby at_279 305 (by decide) ?_
      exact J266 _ (by rw [if_pos c266])
  · skip
    refine own_iloadN X hx hby p2 at_251 rfl 252 rfl ?_
    refine own_iconst X hx hby (3 : Int32) at_252 rfl 253 rfl ?_
    refine own_iand X hx hby at_253 254 rfl ?_
    obtain ⟨v254, e254⟩ : ∃ z : Int32, (p2 &&& (3 : Int32)) = z := ⟨_, rfl⟩
    refine own_istore X hx hby at_254 e254 (l' := #[.val (.int p1), .val (.int p2), .val (.int p3), .val (.ref b2), .val (.ref b100), .val (.ref b170), .val (.int (6 : Int32)), .val (.int v254), .unset, .unset, .unset, .unset]) rfl 256 rfl ?_
    refine own_iloadN X hx hby p3 at_256 rfl 257 rfl ?_
    refine own_iconst X hx hby (3 : Int32) at_257 rfl 258 rfl ?_
    refine own_iand X hx hby at_258 259 rfl ?_
    refine own_iconst X hx hby (1 : Int32) at_259 rfl 260 rfl ?_
    refine own_isub X hx hby at_260 261 rfl ?_
    obtain ⟨v261, e261⟩ : ∃ z : Int32, ((p3 &&& (3 : Int32)) - (1 : Int32)) = z := ⟨_, rfl⟩
    refine own_istore X hx hby at_261 e261 (l' := #[.val (.int p1), .val (.int p2), .val (.int p3), .val (.ref b2), .val (.ref b100), .val (.ref b170), .val (.int (6 : Int32)), .val (.int v254), .val (.int v261), .unset, .unset, .unset]) rfl 263 rfl ?_
    refine own_iload X hx hby v254 at_263 rfl 265 rfl ?_
    refine own_iconst X hx hby (1 : Int32) at_265 rfl 266 rfl ?_
    have J266 : ∀ (j266_0 : Int32), j266_0 = (if v254 = (1 : Int32) then ((0 : Int32) + v261) else (if v254 = (2 : Int32) then ((2 : Int32) + v261) else (p3.toInt16.toInt32))) → Go p e below (FinQ s (Q0 Z p1 p2 p3 u_PRODUCE u_FETCH u_LIST_OFFSETS u_METADATA u_OFFSET_COMMIT u_OFFSET_FETCH u_FIND_COORDINATOR u_JOIN_GROUP u_HEARTBEAT u_LEAVE_GROUP u_SYNC_GROUP u_DESCRIBE_GROUPS u_LIST_GROUPS u_API_VERSIONS h0 n0) room_1.cells room_1.slots) T239 (mkF m 305 #[.val (.int p1), .val (.int p2), .val (.int p3), .val (.ref b2), .val (.ref b100), .val (.ref b170), .val (.int (6 : Int32)), .val (.int v254), .val (.int v261), .val (.int j266_0), .unset, .unset] []) := by
      intro j266_0 ej266_0
      refine own_iload X hx hby j266_0 at_305 rfl 307 rfl ?_
      refine own_i2s X hx hby at_307 308 rfl ?_
      obtain ⟨v308, e308⟩ : ∃ z : Int32, (j266_0.toInt16.toInt32) = z := ⟨_, rfl⟩
      refine own_istore X hx hby at_308 e308 (l' := #[.val (.int p1), .val (.int p2), .val (.int p3), .val (.ref b2), .val (.ref b100), .val (.ref b170), .val (.int (6 : Int32)), .val (.int v254), .val (.int v261), .val (.int j266_0), .val (.int v308), .unset]) rfl 310 rfl ?_
      refine own_iload X hx hby j266_0 at_310 rfl 312 rfl ?_
      refine own_aload X hx hby (.ref b100) at_312 rfl rfl 314 rfl ?_
      refine own_iload X hx hby (6 : Int32) at_314 rfl 316 rfl ?_
      refine own_iaload X hx hby hZ (0 : Int32) eT A_b100 (by decide) rfl at_316 317 rfl ?_
      have J317 : ∀ (j317_0 : Int32), j317_0 = (if j266_0 < (0 : Int32) then (0 : Int32) else (if (2 : Int32) < j266_0 then (0 : Int32) else (1 : Int32))) → Go p e below (FinQ s (Q0 Z p1 p2 p3 u_PRODUCE u_FETCH u_LIST_OFFSETS u_METADATA u_OFFSET_COMMIT u_OFFSET_FETCH u_FIND_COORDINATOR u_JOIN_GROUP u_HEARTBEAT u_LEAVE_GROUP u_SYNC_GROUP u_DESCRIBE_GROUPS u_LIST_GROUPS u_API_VERSIONS h0 n0) room_1.cells room_1.slots) T239 (mkF m 335 #[.val (.int p1), .val (.int p2), .val (.int p3), .val (.ref b2), .val (.ref b100), .val (.ref b170), .val (.int (6 : Int32)), .val (.int v254), .val (.int v261), .val (.int j266_0), .val (.int v308), .unset] [(.int j317_0)]) := by
        intro j317_0 ej317_0
        refine own_istore X hx hby at_335 rfl (l' := #[.val (.int p1), .val (.int p2), .val (.int p3), .val (.ref b2), .val (.ref b100), .val (.ref b170), .val (.int (6 : Int32)), .val (.int v254), .val (.int v261), .val (.int j266_0), .val (.int v308), .val (.int j317_0)]) rfl 337 rfl ?_
        refine own_aloadN X hx hby (.ref b2) at_337 rfl rfl 338 rfl ?_
        refine own_iload X hx hby (6 : Int32) at_338 rfl 340 rfl ?_
        refine own_aaload X hx hby hZ (.ref u_FIND_COORDINATOR) eT A_b2 rfl (by decide) rfl at_340 341 rfl ?_
        refine own_iload X hx hby v308 at_341 rfl 343 rfl ?_
        refine own_callV X hx hby hZ (st := []) [(.int v308)] rfl hown (hw _ (List.mem_of_getElem? (i := 34) rfl)) (hw _ (List.mem_of_getElem? (i := 35) rfl)) (hw _ (List.mem_of_getElem? (i := 37) rfl)) (hw _ (List.mem_of_getElem? (i := 36) rfl)) (hw _ (List.mem_of_getElem? (i := 3) rfl)) (hw _ (List.mem_of_getElem? (i := 38) rfl)) (E_u_FIND_COORDINATOR.ext (own_ext0 K)) (by decide) at_343 (rm1 l Z a0 hw u_FIND_COORDINATOR v308 (0 : Int32) (2 : Int32) h239 n0 Zs (F_minVersion_u_FIND_COORDINATOR.ext (own_ext0 K)) (F_maxVersion_u_FIND_COORDINATOR.ext (own_ext0 K))) eT pd_0 rfl (by rw [hml]; rfl) (by decide) 0 rfl (by decide) (by decide) (by decide) 346 rfl ?_
        intro T343 L9 v9 X hQ
        obtain ⟨rfl, N9, eT⟩ := hQ
        have N := Fr.app N N9
        show Go p e below _ T343 (mkF m 346 #[.val (.int p1), .val (.int p2), .val (.int p3), .val (.ref b2), .val (.ref b100), .val (.ref b170), .val (.int (6 : Int32)), .val (.int v254), .val (.int v261), .val (.int j266_0), .val (.int v308), .val (.int j317_0)] [(.int (f1 v308 (0 : Int32) (2 : Int32)))])
        refine own_iload X hx hby j317_0 at_346 rfl 348 rfl ?_
        have c348 : (f1 v308 (0 : Int32) (2 : Int32)) = j317_0 := own_v _ _ _ _ _ _ _ _ e261 (by decide) (by decide) ej266_0 e308 _ ej317_0
        refine own_icmp_ne X hx hby at_348 355 351 (by decide) rfl (fun q => absurd c348 q) (fun _ => ?_)
        refine own_iconst X hx hby (1 : Int32) at_351 rfl 352 rfl ?_
        refine own_goto X hx hby at_352 356 (by decide) ?_
        refine own_retN X hx hby hret hlk (t := .boolean) (z' := (1 : Int32)) (by simp) at_356 (by decide) (by decide) rfl ?_
        rw [eT]
        exact ⟨rfl, N⟩
      refine own_icmp_lt X hx hby at_317 334 320 (by decide) rfl (fun c317 => ?_) (fun c317 => ?_)
      · skip
        refine own_iconst X hx hby (0 : Int32) at_334 rfl 335 rfl ?_
        exact J317 _ (by rw [if_pos c317])
      · skip
        refine own_iload X hx hby j266_0 at_320 rfl 322 rfl ?_
        refine own_aload X hx hby (.ref b170) at_322 rfl rfl 324 rfl ?_
        refine own_iload X hx hby (6 : Int32) at_324 rfl 326 rfl ?_
        refine own_iaload X hx hby hZ (2 : Int32) eT A_b170 (by decide) rfl at_326 327 rfl ?_
        refine own_icmp_gt X hx hby at_327 334 330 (by decide) rfl (fun c327 => ?_) (fun c327 => ?_)
        · skip
          refine own_iconst X hx hby (0 : Int32) at_334 rfl 335 rfl ?_
          exact J317 _ (by rw [if_neg c317, if_pos c327])
        · skip
          refine own_iconst X hx hby (1 : Int32) at_330 rfl 331 rfl ?_
          refine own_goto X hx hby at_331 335 (by decide) ?_
          exact J317 _ (by rw [if_neg c317, if_neg c327])
    refine own_icmp_ne X hx hby at_266 282 269 (by decide) rfl (fun c266 => ?_) (fun c266 => ?_)
    · skip
      refine own_iload X hx hby v254 at_282 rfl 284 rfl ?_
      refine own_iconst X hx hby (2 : Int32) at_284 rfl 285 rfl ?_
      refine own_icmp_ne X hx hby at_285 301 288 (by decide) rfl (fun c285 => ?_) (fun c285 => ?_)
      · skip
        refine own_iloadN X hx hby p3 at_301 rfl 302 rfl ?_
        refine own_i2s X hx hby at_302 303 rfl ?_
        refine own_istore X hx hby at_303 rfl (l' := #[.val (.int p1), .val (.int p2), .val (.int p3), .val (.ref b2), .val (.ref b100), .val (.ref b170), .val (.int (6 : Int32)), .val (.int v254), .val (.int v261), .val (.int (p3.toInt16.toInt32)), .unset, .unset]) rfl 305 rfl ?_
        exact J266 _ (by rw [if_neg c266, if_neg c285])
      · skip
        refine own_aload X hx hby (.ref b170) at_288 rfl rfl 290 rfl ?_
        refine own_iload X hx hby (6 : Int32) at_290 rfl 292 rfl ?_
        refine own_iaload X hx hby hZ (2 : Int32) eT A_b170 (by decide) rfl at_292 293 rfl ?_
        refine own_iload X hx hby v261 at_293 rfl 295 rfl ?_
        refine own_iadd X hx hby at_295 296 rfl ?_
        refine own_istore X hx hby at_296 rfl (l' := #[.val (.int p1), .val (.int p2), .val (.int p3), .val (.ref b2), .val (.ref b100), .val (.ref b170), .val (.int (6 : Int32)), .val (.int v254), .val (.int v261), .val (.int ((2 : Int32) + v261)), .unset, .unset]) rfl 298 rfl ?_
        refine own_goto X hx hby at_298 305 (by decide) ?_
        exact J266 _ (by rw [if_neg c266, if_pos c285])
    · skip
      refine own_aload X hx hby (.ref b100) at_269 rfl rfl 271 rfl ?_
      refine own_iload X hx hby (6 : Int32) at_271 rfl 273 rfl ?_
      refine own_iaload X hx hby hZ (0 : Int32) eT A_b100 (by decide) rfl at_273 274 rfl ?_
      refine own_iload X hx hby v261 at_274 rfl 276 rfl ?_
      refine own_iadd X hx hby at_276 277 rfl ?_
      refine own_istore X hx hby at_277 rfl (l' := #[.val (.int p1), .val (.int p2), .val (.int p3), .val (.ref b2), .val (.ref b100), .val (.ref b170), .val (.int (6 : Int32)), .val (.int v254), .val (.int v261), .val (.int ((0 : Int32) + v261)), .unset, .unset]) rfl 279 rfl ?_
      refine own_goto X hx hby at_279 305 (by decide) ?_
      exact J266 _ (by rw [if_pos c266])
  · skip
    refine own_iloadN X hx hby p2 at_251 rfl 252 rfl ?_
    refine own_iconst X hx hby (3 : Int32) at_252 rfl 253 rfl ?_
    refine own_iand X hx hby at_253 254 rfl ?_
    obtain ⟨v254, e254⟩ : ∃ z : Int32, (p2 &&& (3 : Int32)) = z := ⟨_, rfl⟩
    refine own_istore X hx hby at_254 e254 (l' := #[.val (.int p1), .val (.int p2), .val (.int p3), .val (.ref b2), .val (.ref b100), .val (.ref b170), .val (.int (7 : Int32)), .val (.int v254), .unset, .unset, .unset, .unset]) rfl 256 rfl ?_
    refine own_iloadN X hx hby p3 at_256 rfl 257 rfl ?_
    refine own_iconst X hx hby (3 : Int32) at_257 rfl 258 rfl ?_
    refine own_iand X hx hby at_258 259 rfl ?_
    refine own_iconst X hx hby (1 : Int32) at_259 rfl 260 rfl ?_
    refine own_isub X hx hby at_260 261 rfl ?_
    obtain ⟨v261, e261⟩ : ∃ z : Int32, ((p3 &&& (3 : Int32)) - (1 : Int32)) = z := ⟨_, rfl⟩
    refine own_istore X hx hby at_261 e261 (l' := #[.val (.int p1), .val (.int p2), .val (.int p3), .val (.ref b2), .val (.ref b100), .val (.ref b170), .val (.int (7 : Int32)), .val (.int v254), .val (.int v261), .unset, .unset, .unset]) rfl 263 rfl ?_
    refine own_iload X hx hby v254 at_263 rfl 265 rfl ?_
    refine own_iconst X hx hby (1 : Int32) at_265 rfl 266 rfl ?_
    have J266 : ∀ (j266_0 : Int32), j266_0 = (if v254 = (1 : Int32) then ((0 : Int32) + v261) else (if v254 = (2 : Int32) then ((5 : Int32) + v261) else (p3.toInt16.toInt32))) → Go p e below (FinQ s (Q0 Z p1 p2 p3 u_PRODUCE u_FETCH u_LIST_OFFSETS u_METADATA u_OFFSET_COMMIT u_OFFSET_FETCH u_FIND_COORDINATOR u_JOIN_GROUP u_HEARTBEAT u_LEAVE_GROUP u_SYNC_GROUP u_DESCRIBE_GROUPS u_LIST_GROUPS u_API_VERSIONS h0 n0) room_1.cells room_1.slots) T239 (mkF m 305 #[.val (.int p1), .val (.int p2), .val (.int p3), .val (.ref b2), .val (.ref b100), .val (.ref b170), .val (.int (7 : Int32)), .val (.int v254), .val (.int v261), .val (.int j266_0), .unset, .unset] []) := by
      intro j266_0 ej266_0
      refine own_iload X hx hby j266_0 at_305 rfl 307 rfl ?_
      refine own_i2s X hx hby at_307 308 rfl ?_
      obtain ⟨v308, e308⟩ : ∃ z : Int32, (j266_0.toInt16.toInt32) = z := ⟨_, rfl⟩
      refine own_istore X hx hby at_308 e308 (l' := #[.val (.int p1), .val (.int p2), .val (.int p3), .val (.ref b2), .val (.ref b100), .val (.ref b170), .val (.int (7 : Int32)), .val (.int v254), .val (.int v261), .val (.int j266_0), .val (.int v308), .unset]) rfl 310 rfl ?_
      refine own_iload X hx hby j266_0 at_310 rfl 312 rfl ?_
      refine own_aload X hx hby (.ref b100) at_312 rfl rfl 314 rfl ?_
      refine own_iload X hx hby (7 : Int32) at_314 rfl 316 rfl ?_
      refine own_iaload X hx hby hZ (0 : Int32) eT A_b100 (by decide) rfl at_316 317 rfl ?_
      have J317 : ∀ (j317_0 : Int32), j317_0 = (if j266_0 < (0 : Int32) then (0 : Int32) else (if (5 : Int32) < j266_0 then (0 : Int32) else (1 : Int32))) → Go p e below (FinQ s (Q0 Z p1 p2 p3 u_PRODUCE u_FETCH u_LIST_OFFSETS u_METADATA u_OFFSET_COMMIT u_OFFSET_FETCH u_FIND_COORDINATOR u_JOIN_GROUP u_HEARTBEAT u_LEAVE_GROUP u_SYNC_GROUP u_DESCRIBE_GROUPS u_LIST_GROUPS u_API_VERSIONS h0 n0) room_1.cells room_1.slots) T239 (mkF m 335 #[.val (.int p1), .val (.int p2), .val (.int p3), .val (.ref b2), .val (.ref b100), .val (.ref b170), .val (.int (7 : Int32)), .val (.int v254), .val (.int v261), .val (.int j266_0), .val (.int v308), .unset] [(.int j317_0)]) := by
        intro j317_0 ej317_0
        refine own_istore X hx hby at_335 rfl (l' := #[.val (.int p1), .val (.int p2), .val (.int p3), .val (.ref b2), .val (.ref b100), .val (.ref b170), .val (.int (7 : Int32)), .val (.int v254), .val (.int v261), .val (.int j266_0), .val (.int v308), .val (.int j317_0)]) rfl 337 rfl ?_
        refine own_aloadN X hx hby (.ref b2) at_337 rfl rfl 338 rfl ?_
        refine own_iload X hx hby (7 : Int32) at_338 rfl 340 rfl ?_
        refine own_aaload X hx hby hZ (.ref u_JOIN_GROUP) eT A_b2 rfl (by decide) rfl at_340 341 rfl ?_
        refine own_iload X hx hby v308 at_341 rfl 343 rfl ?_
        refine own_callV X hx hby hZ (st := []) [(.int v308)] rfl hown (hw _ (List.mem_of_getElem? (i := 34) rfl)) (hw _ (List.mem_of_getElem? (i := 35) rfl)) (hw _ (List.mem_of_getElem? (i := 37) rfl)) (hw _ (List.mem_of_getElem? (i := 36) rfl)) (hw _ (List.mem_of_getElem? (i := 3) rfl)) (hw _ (List.mem_of_getElem? (i := 38) rfl)) (E_u_JOIN_GROUP.ext (own_ext0 K)) (by decide) at_343 (rm1 l Z a0 hw u_JOIN_GROUP v308 (0 : Int32) (5 : Int32) h239 n0 Zs (F_minVersion_u_JOIN_GROUP.ext (own_ext0 K)) (F_maxVersion_u_JOIN_GROUP.ext (own_ext0 K))) eT pd_0 rfl (by rw [hml]; rfl) (by decide) 0 rfl (by decide) (by decide) (by decide) 346 rfl ?_
        intro T343 L9 v9 X hQ
        obtain ⟨rfl, N9, eT⟩ := hQ
        have N := Fr.app N N9
        show Go p e below _ T343 (mkF m 346 #[.val (.int p1), .val (.int p2), .val (.int p3), .val (.ref b2), .val (.ref b100), .val (.ref b170), .val (.int (7 : Int32)), .val (.int v254), .val (.int v261), .val (.int j266_0), .val (.int v308), .val (.int j317_0)] [(.int (f1 v308 (0 : Int32) (5 : Int32)))])
        refine own_iload X hx hby j317_0 at_346 rfl 348 rfl ?_
        have c348 : (f1 v308 (0 : Int32) (5 : Int32)) = j317_0 := own_v _ _ _ _ _ _ _ _ e261 (by decide) (by decide) ej266_0 e308 _ ej317_0
        refine own_icmp_ne X hx hby at_348 355 351 (by decide) rfl (fun q => absurd c348 q) (fun _ => ?_)
        refine own_iconst X hx hby (1 : Int32) at_351 rfl 352 rfl ?_
        refine own_goto X hx hby at_352 356 (by decide) ?_
        refine own_retN X hx hby hret hlk (t := .boolean) (z' := (1 : Int32)) (by simp) at_356 (by decide) (by decide) rfl ?_
        rw [eT]
        exact ⟨rfl, N⟩
      refine own_icmp_lt X hx hby at_317 334 320 (by decide) rfl (fun c317 => ?_) (fun c317 => ?_)
      · skip
        refine own_iconst X hx hby (0 : Int32) at_334 rfl 335 rfl ?_
        exact J317 _ (by rw [if_pos c317])
      · skip
        refine own_iload X hx hby j266_0 at_320 rfl 322 rfl ?_
        refine own_aload X hx hby (.ref b170) at_322 rfl rfl 324 rfl ?_
        refine own_iload X hx hby (7 : Int32) at_324 rfl 326 rfl ?_
        refine own_iaload X hx hby hZ (5 : Int32) eT A_b170 (by decide) rfl at_326 327 rfl ?_
        refine own_icmp_gt X hx hby at_327 334 330 (by decide) rfl (fun c327 => ?_) (fun c327 => ?_)
        · skip
          refine own_iconst X hx hby (0 : Int32) at_334 rfl 335 rfl ?_
          exact J317 _ (by rw [if_neg c317, if_pos c327])
        · skip
          refine own_iconst X hx hby (1 : Int32) at_330 rfl 331 rfl ?_
          refine own_goto X hx hby at_331 335 (by decide) ?_
          exact J317 _ (by rw [if_neg c317, if_neg c327])
    refine own_icmp_ne X hx hby at_266 282 269 (by decide) rfl (fun c266 => ?_) (fun c266 => ?_)
    · skip
      refine own_iload X hx hby v254 at_282 rfl 284 rfl ?_
      refine own_iconst X hx hby (2 : Int32) at_284 rfl 285 rfl ?_
      refine own_icmp_ne X hx hby at_285 301 288 (by decide) rfl (fun c285 => ?_) (fun c285 => ?_)
      · skip
        refine own_iloadN X hx hby p3 at_301 rfl 302 rfl ?_
        refine own_i2s X hx hby at_302 303 rfl ?_
        refine own_istore X hx hby at_303 rfl (l' := #[.val (.int p1), .val (.int p2), .val (.int p3), .val (.ref b2), .val (.ref b100), .val (.ref b170), .val (.int (7 : Int32)), .val (.int v254), .val (.int v261), .val (.int (p3.toInt16.toInt32)), .unset, .unset]) rfl 305 rfl ?_
        exact J266 _ (by rw [if_neg c266, if_neg c285])
      · skip
        refine own_aload X hx hby (.ref b170) at_288 rfl rfl 290 rfl ?_
        refine own_iload X hx hby (7 : Int32) at_290 rfl 292 rfl ?_
        refine own_iaload X hx hby hZ (5 : Int32) eT A_b170 (by decide) rfl at_292 293 rfl ?_
        refine own_iload X hx hby v261 at_293 rfl 295 rfl ?_
        refine own_iadd X hx hby at_295 296 rfl ?_
        refine own_istore X hx hby at_296 rfl (l' := #[.val (.int p1), .val (.int p2), .val (.int p3), .val (.ref b2), .val (.ref b100), .val (.ref b170), .val (.int (7 : Int32)), .val (.int v254), .val (.int v261), .val (.int ((5 : Int32) + v261)), .unset, .unset]) rfl 298 rfl ?_
        refine own_goto X hx hby at_298 305 (by decide) ?_
        exact J266 _ (by rw [if_neg c266, if_pos c285])
    · skip
      refine own_aload X hx hby (.ref b100) at_269 rfl rfl 271 rfl ?_
      refine own_iload X hx hby (7 : Int32) at_271 rfl 273 rfl ?_
      refine own_iaload X hx hby hZ (0 : Int32) eT A_b100 (by decide) rfl at_273 274 rfl ?_
      refine own_iload X hx hby v261 at_274 rfl 276 rfl ?_
      refine own_iadd X hx hby at_276 277 rfl ?_
      refine own_istore X hx hby at_277 rfl (l' := #[.val (.int p1), .val (.int p2), .val (.int p3), .val (.ref b2), .val (.ref b100), .val (.ref b170), .val (.int (7 : Int32)), .val (.int v254), .val (.int v261), .val (.int ((0 : Int32) + v261)), .unset, .unset]) rfl 279 rfl ?_
      refine own_goto X hx hby at_279 305 (by decide) ?_
      exact J266 _ (by rw [if_pos c266])
  · skip
    refine own_iloadN X hx hby p2 at_251 rfl 252 rfl ?_
    refine own_iconst X hx hby (3 : Int32) at_252 rfl 253 rfl ?_
    refine own_iand X hx hby at_253 254 rfl ?_
    obtain ⟨v254, e254⟩ : ∃ z : Int32, (p2 &&& (3 : Int32)) = z := ⟨_, rfl⟩
    refine own_istore X hx hby at_254 e254 (l' := #[.val (.int p1), .val (.int p2), .val (.int p3), .val (.ref b2), .val (.ref b100), .val (.ref b170), .val (.int (8 : Int32)), .val (.int v254), .unset, .unset, .unset, .unset]) rfl 256 rfl ?_
    refine own_iloadN X hx hby p3 at_256 rfl 257 rfl ?_
    refine own_iconst X hx hby (3 : Int32) at_257 rfl 258 rfl ?_
    refine own_iand X hx hby at_258 259 rfl ?_
    refine own_iconst X hx hby (1 : Int32) at_259 rfl 260 rfl ?_
    refine own_isub X hx hby at_260 261 rfl ?_
    obtain ⟨v261, e261⟩ : ∃ z : Int32, ((p3 &&& (3 : Int32)) - (1 : Int32)) = z := ⟨_, rfl⟩
    refine own_istore X hx hby at_261 e261 (l' := #[.val (.int p1), .val (.int p2), .val (.int p3), .val (.ref b2), .val (.ref b100), .val (.ref b170), .val (.int (8 : Int32)), .val (.int v254), .val (.int v261), .unset, .unset, .unset]) rfl 263 rfl ?_
    refine own_iload X hx hby v254 at_263 rfl 265 rfl ?_
    refine own_iconst X hx hby (1 : Int32) at_265 rfl 266 rfl ?_
    have J266 : ∀ (j266_0 : Int32), j266_0 = (if v254 = (1 : Int32) then ((0 : Int32) + v261) else (if v254 = (2 : Int32) then ((3 : Int32) + v261) else (p3.toInt16.toInt32))) → Go p e below (FinQ s (Q0 Z p1 p2 p3 u_PRODUCE u_FETCH u_LIST_OFFSETS u_METADATA u_OFFSET_COMMIT u_OFFSET_FETCH u_FIND_COORDINATOR u_JOIN_GROUP u_HEARTBEAT u_LEAVE_GROUP u_SYNC_GROUP u_DESCRIBE_GROUPS u_LIST_GROUPS u_API_VERSIONS h0 n0) room_1.cells room_1.slots) T239 (mkF m 305 #[.val (.int p1), .val (.int p2), .val (.int p3), .val (.ref b2), .val (.ref b100), .val (.ref b170), .val (.int (8 : Int32)), .val (.int v254), .val (.int v261), .val (.int j266_0), .unset, .unset] []) := by
      intro j266_0 ej266_0
      refine own_iload X hx hby j266_0 at_305 rfl 307 rfl ?_
      refine own_i2s X hx hby at_307 308 rfl ?_
      obtain ⟨v308, e308⟩ : ∃ z : Int32, (j266_0.toInt16.toInt32) = z := ⟨_, rfl⟩
      refine own_istore X hx hby at_308 e308 (l' := #[.val (.int p1), .val (.int p2), .val (.int p3), .val (.ref b2), .val (.ref b100), .val (.ref b170), .val (.int (8 : Int32)), .val (.int v254), .val (.int v261), .val (.int j266_0), .val (.int v308), .unset]) rfl 310 rfl ?_
      refine own_iload X hx hby j266_0 at_310 rfl 312 rfl ?_
      refine own_aload X hx hby (.ref b100) at_312 rfl rfl 314 rfl ?_
      refine own_iload X hx hby (8 : Int32) at_314 rfl 316 rfl ?_
      refine own_iaload X hx hby hZ (0 : Int32) eT A_b100 (by decide) rfl at_316 317 rfl ?_
      have J317 : ∀ (j317_0 : Int32), j317_0 = (if j266_0 < (0 : Int32) then (0 : Int32) else (if (3 : Int32) < j266_0 then (0 : Int32) else (1 : Int32))) → Go p e below (FinQ s (Q0 Z p1 p2 p3 u_PRODUCE u_FETCH u_LIST_OFFSETS u_METADATA u_OFFSET_COMMIT u_OFFSET_FETCH u_FIND_COORDINATOR u_JOIN_GROUP u_HEARTBEAT u_LEAVE_GROUP u_SYNC_GROUP u_DESCRIBE_GROUPS u_LIST_GROUPS u_API_VERSIONS h0 n0) room_1.cells room_1.slots) T239 (mkF m 335 #[.val (.int p1), .val (.int p2), .val (.int p3), .val (.ref b2), .val (.ref b100), .val (.ref b170), .val (.int (8 : Int32)), .val (.int v254), .val (.int v261), .val (.int j266_0), .val (.int v308), .unset] [(.int j317_0)]) := by
        intro j317_0 ej317_0
        refine own_istore X hx hby at_335 rfl (l' := #[.val (.int p1), .val (.int p2), .val (.int p3), .val (.ref b2), .val (.ref b100), .val (.ref b170), .val (.int (8 : Int32)), .val (.int v254), .val (.int v261), .val (.int j266_0), .val (.int v308), .val (.int j317_0)]) rfl 337 rfl ?_
        refine own_aloadN X hx hby (.ref b2) at_337 rfl rfl 338 rfl ?_
        refine own_iload X hx hby (8 : Int32) at_338 rfl 340 rfl ?_
        refine own_aaload X hx hby hZ (.ref u_HEARTBEAT) eT A_b2 rfl (by decide) rfl at_340 341 rfl ?_
        refine own_iload X hx hby v308 at_341 rfl 343 rfl ?_
        refine own_callV X hx hby hZ (st := []) [(.int v308)] rfl hown (hw _ (List.mem_of_getElem? (i := 34) rfl)) (hw _ (List.mem_of_getElem? (i := 35) rfl)) (hw _ (List.mem_of_getElem? (i := 37) rfl)) (hw _ (List.mem_of_getElem? (i := 36) rfl)) (hw _ (List.mem_of_getElem? (i := 3) rfl)) (hw _ (List.mem_of_getElem? (i := 38) rfl)) (E_u_HEARTBEAT.ext (own_ext0 K)) (by decide) at_343 (rm1 l Z a0 hw u_HEARTBEAT v308 (0 : Int32) (3 : Int32) h239 n0 Zs (F_minVersion_u_HEARTBEAT.ext (own_ext0 K)) (F_maxVersion_u_HEARTBEAT.ext (own_ext0 K))) eT pd_0 rfl (by rw [hml]; rfl) (by decide) 0 rfl (by decide) (by decide) (by decide) 346 rfl ?_
        intro T343 L9 v9 X hQ
        obtain ⟨rfl, N9, eT⟩ := hQ
        have N := Fr.app N N9
        show Go p e below _ T343 (mkF m 346 #[.val (.int p1), .val (.int p2), .val (.int p3), .val (.ref b2), .val (.ref b100), .val (.ref b170), .val (.int (8 : Int32)), .val (.int v254), .val (.int v261), .val (.int j266_0), .val (.int v308), .val (.int j317_0)] [(.int (f1 v308 (0 : Int32) (3 : Int32)))])
        refine own_iload X hx hby j317_0 at_346 rfl 348 rfl ?_
        have c348 : (f1 v308 (0 : Int32) (3 : Int32)) = j317_0 := own_v _ _ _ _ _ _ _ _ e261 (by decide) (by decide) ej266_0 e308 _ ej317_0
        refine own_icmp_ne X hx hby at_348 355 351 (by decide) rfl (fun q => absurd c348 q) (fun _ => ?_)
        refine own_iconst X hx hby (1 : Int32) at_351 rfl 352 rfl ?_
        refine own_goto X hx hby at_352 356 (by decide) ?_
        refine own_retN X hx hby hret hlk (t := .boolean) (z' := (1 : Int32)) (by simp) at_356 (by decide) (by decide) rfl ?_
        rw [eT]
        exact ⟨rfl, N⟩
      refine own_icmp_lt X hx hby at_317 334 320 (by decide) rfl (fun c317 => ?_) (fun c317 => ?_)
      · skip
        refine own_iconst X hx hby (0 : Int32) at_334 rfl 335 rfl ?_
        exact J317 _ (by rw [if_pos c317])
      · skip
        refine own_iload X hx hby j266_0 at_320 rfl 322 rfl ?_
        refine own_aload X hx hby (.ref b170) at_322 rfl rfl 324 rfl ?_
        refine own_iload X hx hby (8 : Int32) at_324 rfl 326 rfl ?_
        refine own_iaload X hx hby hZ (3 : Int32) eT A_b170 (by decide) rfl at_326 327 rfl ?_
        refine own_icmp_gt X hx hby at_327 334 330 (by decide) rfl (fun c327 => ?_) (fun c327 => ?_)
        · skip
          refine own_iconst X hx hby (0 : Int32) at_334 rfl 335 rfl ?_
          exact J317 _ (by rw [if_neg c317, if_pos c327])
        · skip
          refine own_iconst X hx hby (1 : Int32) at_330 rfl 331 rfl ?_
          refine own_goto X hx hby at_331 335 (by decide) ?_
          exact J317 _ (by rw [if_neg c317, if_neg c327])
    refine own_icmp_ne X hx hby at_266 282 269 (by decide) rfl (fun c266 => ?_) (fun c266 => ?_)
    · skip
      refine own_iload X hx hby v254 at_282 rfl 284 rfl ?_
      refine own_iconst X hx hby (2 : Int32) at_284 rfl 285 rfl ?_
      refine own_icmp_ne X hx hby at_285 301 288 (by decide) rfl (fun c285 => ?_) (fun c285 => ?_)
      · skip
        refine own_iloadN X hx hby p3 at_301 rfl 302 rfl ?_
        refine own_i2s X hx hby at_302 303 rfl ?_
        refine own_istore X hx hby at_303 rfl (l' := #[.val (.int p1), .val (.int p2), .val (.int p3), .val (.ref b2), .val (.ref b100), .val (.ref b170), .val (.int (8 : Int32)), .val (.int v254), .val (.int v261), .val (.int (p3.toInt16.toInt32)), .unset, .unset]) rfl 305 rfl ?_
        exact J266 _ (by rw [if_neg c266, if_neg c285])
      · skip
        refine own_aload X hx hby (.ref b170) at_288 rfl rfl 290 rfl ?_
        refine own_iload X hx hby (8 : Int32) at_290 rfl 292 rfl ?_
        refine own_iaload X hx hby hZ (3 : Int32) eT A_b170 (by decide) rfl at_292 293 rfl ?_
        refine own_iload X hx hby v261 at_293 rfl 295 rfl ?_
        refine own_iadd X hx hby at_295 296 rfl ?_
        refine own_istore X hx hby at_296 rfl (l' := #[.val (.int p1), .val (.int p2), .val (.int p3), .val (.ref b2), .val (.ref b100), .val (.ref b170), .val (.int (8 : Int32)), .val (.int v254), .val (.int v261), .val (.int ((3 : Int32) + v261)), .unset, .unset]) rfl 298 rfl ?_
        refine own_goto X hx hby at_298 305 (by decide) ?_
        exact J266 _ (by rw [if_neg c266, if_pos c285])
    · skip
      refine own_aload X hx hby (.ref b100) at_269 rfl rfl 271 rfl ?_
      refine own_iload X hx hby (8 : Int32) at_271 rfl 273 rfl ?_
      refine own_iaload X hx hby hZ (0 : Int32) eT A_b100 (by decide) rfl at_273 274 rfl ?_
      refine own_iload X hx hby v261 at_274 rfl 276 rfl ?_
      refine own_iadd X hx hby at_276 277 rfl ?_
      refine own_istore X hx hby at_277 rfl (l' := #[.val (.int p1), .val (.int p2), .val (.int p3), .val (.ref b2), .val (.ref b100), .val (.ref b170), .val (.int (8 : Int32)), .val (.int v254), .val (.int v261), .val (.int ((0 : Int32) + v261)), .unset, .unset]) rfl 279 rfl ?_
      refine own_goto X hx hby at_279 305 (by decide) ?_
      exact J266 _ (by rw [if_pos c266])
  · skip
    refine own_iloadN X hx hby p2 at_251 rfl 252 rfl ?_
    refine own_iconst X hx hby (3 : Int32) at_252 rfl 253 rfl ?_
    refine own_iand X hx hby at_253 254 rfl ?_
    obtain ⟨v254, e254⟩ : ∃ z : Int32, (p2 &&& (3 : Int32)) = z := ⟨_, rfl⟩
    refine own_istore X hx hby at_254 e254 (l' := #[.val (.int p1), .val (.int p2), .val (.int p3), .val (.ref b2), .val (.ref b100), .val (.ref b170), .val (.int (9 : Int32)), .val (.int v254), .unset, .unset, .unset, .unset]) rfl 256 rfl ?_
    refine own_iloadN X hx hby p3 at_256 rfl 257 rfl ?_
    refine own_iconst X hx hby (3 : Int32) at_257 rfl 258 rfl ?_
    refine own_iand X hx hby at_258 259 rfl ?_
    refine own_iconst X hx hby (1 : Int32) at_259 rfl 260 rfl ?_
    refine own_isub X hx hby at_260 261 rfl ?_
    obtain ⟨v261, e261⟩ : ∃ z : Int32, ((p3 &&& (3 : Int32)) - (1 : Int32)) = z := ⟨_, rfl⟩
    refine own_istore X hx hby at_261 e261 (l' := #[.val (.int p1), .val (.int p2), .val (.int p3), .val (.ref b2), .val (.ref b100), .val (.ref b170), .val (.int (9 : Int32)), .val (.int v254), .val (.int v261), .unset, .unset, .unset]) rfl 263 rfl ?_
    refine own_iload X hx hby v254 at_263 rfl 265 rfl ?_
    refine own_iconst X hx hby (1 : Int32) at_265 rfl 266 rfl ?_
    have J266 : ∀ (j266_0 : Int32), j266_0 = (if v254 = (1 : Int32) then ((0 : Int32) + v261) else (if v254 = (2 : Int32) then ((3 : Int32) + v261) else (p3.toInt16.toInt32))) → Go p e below (FinQ s (Q0 Z p1 p2 p3 u_PRODUCE u_FETCH u_LIST_OFFSETS u_METADATA u_OFFSET_COMMIT u_OFFSET_FETCH u_FIND_COORDINATOR u_JOIN_GROUP u_HEARTBEAT u_LEAVE_GROUP u_SYNC_GROUP u_DESCRIBE_GROUPS u_LIST_GROUPS u_API_VERSIONS h0 n0) room_1.cells room_1.slots) T239 (mkF m 305 #[.val (.int p1), .val (.int p2), .val (.int p3), .val (.ref b2), .val (.ref b100), .val (.ref b170), .val (.int (9 : Int32)), .val (.int v254), .val (.int v261), .val (.int j266_0), .unset, .unset] []) := by
      intro j266_0 ej266_0
      refine own_iload X hx hby j266_0 at_305 rfl 307 rfl ?_
      refine own_i2s X hx hby at_307 308 rfl ?_
      obtain ⟨v308, e308⟩ : ∃ z : Int32, (j266_0.toInt16.toInt32) = z := ⟨_, rfl⟩
      refine own_istore X hx hby at_308 e308 (l' := #[.val (.int p1), .val (.int p2), .val (.int p3), .val (.ref b2), .val (.ref b100), .val (.ref b170), .val (.int (9 : Int32)), .val (.int v254), .val (.int v261), .val (.int j266_0), .val (.int v308), .unset]) rfl 310 rfl ?_
      refine own_iload X hx hby j266_0 at_310 rfl 312 rfl ?_
      refine own_aload X hx hby (.ref b100) at_312 rfl rfl 314 rfl ?_
      refine own_iload X hx hby (9 : Int32) at_314 rfl 316 rfl ?_
      refine own_iaload X hx hby hZ (0 : Int32) eT A_b100 (by decide) rfl at_316 317 rfl ?_
      have J317 : ∀ (j317_0 : Int32), j317_0 = (if j266_0 < (0 : Int32) then (0 : Int32) else (if (3 : Int32) < j266_0 then (0 : Int32) else (1 : Int32))) → Go p e below (FinQ s (Q0 Z p1 p2 p3 u_PRODUCE u_FETCH u_LIST_OFFSETS u_METADATA u_OFFSET_COMMIT u_OFFSET_FETCH u_FIND_COORDINATOR u_JOIN_GROUP u_HEARTBEAT u_LEAVE_GROUP u_SYNC_GROUP u_DESCRIBE_GROUPS u_LIST_GROUPS u_API_VERSIONS h0 n0) room_1.cells room_1.slots) T239 (mkF m 335 #[.val (.int p1), .val (.int p2), .val (.int p3), .val (.ref b2), .val (.ref b100), .val (.ref b170), .val (.int (9 : Int32)), .val (.int v254), .val (.int v261), .val (.int j266_0), .val (.int v308), .unset] [(.int j317_0)]) := by
        intro j317_0 ej317_0
        refine own_istore X hx hby at_335 rfl (l' := #[.val (.int p1), .val (.int p2), .val (.int p3), .val (.ref b2), .val (.ref b100), .val (.ref b170), .val (.int (9 : Int32)), .val (.int v254), .val (.int v261), .val (.int j266_0), .val (.int v308), .val (.int j317_0)]) rfl 337 rfl ?_
        refine own_aloadN X hx hby (.ref b2) at_337 rfl rfl 338 rfl ?_
        refine own_iload X hx hby (9 : Int32) at_338 rfl 340 rfl ?_
        refine own_aaload X hx hby hZ (.ref u_LEAVE_GROUP) eT A_b2 rfl (by decide) rfl at_340 341 rfl ?_
        refine own_iload X hx hby v308 at_341 rfl 343 rfl ?_
        refine own_callV X hx hby hZ (st := []) [(.int v308)] rfl hown (hw _ (List.mem_of_getElem? (i := 34) rfl)) (hw _ (List.mem_of_getElem? (i := 35) rfl)) (hw _ (List.mem_of_getElem? (i := 37) rfl)) (hw _ (List.mem_of_getElem? (i := 36) rfl)) (hw _ (List.mem_of_getElem? (i := 3) rfl)) (hw _ (List.mem_of_getElem? (i := 38) rfl)) (E_u_LEAVE_GROUP.ext (own_ext0 K)) (by decide) at_343 (rm1 l Z a0 hw u_LEAVE_GROUP v308 (0 : Int32) (3 : Int32) h239 n0 Zs (F_minVersion_u_LEAVE_GROUP.ext (own_ext0 K)) (F_maxVersion_u_LEAVE_GROUP.ext (own_ext0 K))) eT pd_0 rfl (by rw [hml]; rfl) (by decide) 0 rfl (by decide) (by decide) (by decide) 346 rfl ?_
        intro T343 L9 v9 X hQ
        obtain ⟨rfl, N9, eT⟩ := hQ
        have N := Fr.app N N9
        show Go p e below _ T343 (mkF m 346 #[.val (.int p1), .val (.int p2), .val (.int p3), .val (.ref b2), .val (.ref b100), .val (.ref b170), .val (.int (9 : Int32)), .val (.int v254), .val (.int v261), .val (.int j266_0), .val (.int v308), .val (.int j317_0)] [(.int (f1 v308 (0 : Int32) (3 : Int32)))])
        refine own_iload X hx hby j317_0 at_346 rfl 348 rfl ?_
        have c348 : (f1 v308 (0 : Int32) (3 : Int32)) = j317_0 := own_v _ _ _ _ _ _ _ _ e261 (by decide) (by decide) ej266_0 e308 _ ej317_0
        refine own_icmp_ne X hx hby at_348 355 351 (by decide) rfl (fun q => absurd c348 q) (fun _ => ?_)
        refine own_iconst X hx hby (1 : Int32) at_351 rfl 352 rfl ?_
        refine own_goto X hx hby at_352 356 (by decide) ?_
        refine own_retN X hx hby hret hlk (t := .boolean) (z' := (1 : Int32)) (by simp) at_356 (by decide) (by decide) rfl ?_
        rw [eT]
        exact ⟨rfl, N⟩
      refine own_icmp_lt X hx hby at_317 334 320 (by decide) rfl (fun c317 => ?_) (fun c317 => ?_)
      · skip
        refine own_iconst X hx hby (0 : Int32) at_334 rfl 335 rfl ?_
        exact J317 _ (by rw [if_pos c317])
      · skip
        refine own_iload X hx hby j266_0 at_320 rfl 322 rfl ?_
        refine own_aload X hx hby (.ref b170) at_322 rfl rfl 324 rfl ?_
        refine own_iload X hx hby (9 : Int32) at_324 rfl 326 rfl ?_
        refine own_iaload X hx hby hZ (3 : Int32) eT A_b170 (by decide) rfl at_326 327 rfl ?_
        refine own_icmp_gt X hx hby at_327 334 330 (by decide) rfl (fun c327 => ?_) (fun c327 => ?_)
        · skip
          refine own_iconst X hx hby (0 : Int32) at_334 rfl 335 rfl ?_
          exact J317 _ (by rw [if_neg c317, if_pos c327])
        · skip
          refine own_iconst X hx hby (1 : Int32) at_330 rfl 331 rfl ?_
          refine own_goto X hx hby at_331 335 (by decide) ?_
          exact J317 _ (by rw [if_neg c317, if_neg c327])
    refine own_icmp_ne X hx hby at_266 282 269 (by decide) rfl (fun c266 => ?_) (fun c266 => ?_)
    · skip
      refine own_iload X hx hby v254 at_282 rfl 284 rfl ?_
      refine own_iconst X hx hby (2 : Int32) at_284 rfl 285 rfl ?_
      refine own_icmp_ne X hx hby at_285 301 288 (by decide) rfl (fun c285 => ?_) (fun c285 => ?_)
      · skip
        refine own_iloadN X hx hby p3 at_301 rfl 302 rfl ?_
        refine own_i2s X hx hby at_302 303 rfl ?_
        refine own_istore X hx hby at_303 rfl (l' := #[.val (.int p1), .val (.int p2), .val (.int p3), .val (.ref b2), .val (.ref b100), .val (.ref b170), .val (.int (9 : Int32)), .val (.int v254), .val (.int v261), .val (.int (p3.toInt16.toInt32)), .unset, .unset]) rfl 305 rfl ?_
        exact J266 _ (by rw [if_neg c266, if_neg c285])
      · skip
        refine own_aload X hx hby (.ref b170) at_288 rfl rfl 290 rfl ?_
        refine own_iload X hx hby (9 : Int32) at_290 rfl 292 rfl ?_
        refine own_iaload X hx hby hZ (3 : Int32) eT A_b170 (by decide) rfl at_292 293 rfl ?_
        refine own_iload X hx hby v261 at_293 rfl 295 rfl ?_
        refine own_iadd X hx hby at_295 296 rfl ?_
        refine own_istore X hx hby at_296 rfl (l' := #[.val (.int p1), .val (.int p2), .val (.int p3), .val (.ref b2), .val (.ref b100), .val (.ref b170), .val (.int (9 : Int32)), .val (.int v254), .val (.int v261), .val (.int ((3 : Int32) + v261)), .unset, .unset]) rfl 298 rfl ?_
        refine own_goto X hx hby at_298 305 (by decide) ?_
        exact J266 _ (by rw [if_neg c266, if_pos c285])
    · skip
      refine own_aload X hx hby (.ref b100) at_269 rfl rfl 271 rfl ?_
      refine own_iload X hx hby (9 : Int32) at_271 rfl 273 rfl ?_
      refine own_iaload X hx hby hZ (0 : Int32) eT A_b100 (by decide) rfl at_273 274 rfl ?_
      refine own_iload X hx hby v261 at_274 rfl 276 rfl ?_
      refine own_iadd X hx hby at_276 277 rfl ?_
      refine own_istore X hx hby at_277 rfl (l' := #[.val (.int p1), .val (.int p2), .val (.int p3), .val (.ref b2), .val (.ref b100), .val (.ref b170), .val (.int (9 : Int32)), .val (.int v254), .val (.int v261), .val (.int ((0 : Int32) + v261)), .unset, .unset]) rfl 279 rfl ?_
      refine own_goto X hx hby at_279 305 (by decide) ?_
      exact J266 _ (by rw [if_pos c266])
  · skip
    refine own_iloadN X hx hby p2 at_251 rfl 252 rfl ?_
    refine own_iconst X hx hby (3 : Int32) at_252 rfl 253 rfl ?_
    refine own_iand X hx hby at_253 254 rfl ?_
    obtain ⟨v254, e254⟩ : ∃ z : Int32, (p2 &&& (3 : Int32)) = z := ⟨_, rfl⟩
    refine own_istore X hx hby at_254 e254 (l' := #[.val (.int p1), .val (.int p2), .val (.int p3), .val (.ref b2), .val (.ref b100), .val (.ref b170), .val (.int (10 : Int32)), .val (.int v254), .unset, .unset, .unset, .unset]) rfl 256 rfl ?_
    refine own_iloadN X hx hby p3 at_256 rfl 257 rfl ?_
    refine own_iconst X hx hby (3 : Int32) at_257 rfl 258 rfl ?_
    refine own_iand X hx hby at_258 259 rfl ?_
    refine own_iconst X hx hby (1 : Int32) at_259 rfl 260 rfl ?_
    refine own_isub X hx hby at_260 261 rfl ?_
    obtain ⟨v261, e261⟩ : ∃ z : Int32, ((p3 &&& (3 : Int32)) - (1 : Int32)) = z := ⟨_, rfl⟩
    refine own_istore X hx hby at_261 e261 (l' := #[.val (.int p1), .val (.int p2), .val (.int p3), .val (.ref b2), .val (.ref b100), .val (.ref b170), .val (.int (10 : Int32)), .val (.int v254), .val (.int v261), .unset, .unset, .unset]) rfl 263 rfl ?_
    refine own_iload X hx hby v254 at_263 rfl 265 rfl ?_
    refine own_iconst X hx hby (1 : Int32) at_265 rfl 266 rfl ?_
    have J266 : ∀ (j266_0 : Int32), j266_0 = (if v254 = (1 : Int32) then ((0 : Int32) + v261) else (if v254 = (2 : Int32) then ((3 : Int32) + v261) else (p3.toInt16.toInt32))) → Go p e below (FinQ s (Q0 Z p1 p2 p3 u_PRODUCE u_FETCH u_LIST_OFFSETS u_METADATA u_OFFSET_COMMIT u_OFFSET_FETCH u_FIND_COORDINATOR u_JOIN_GROUP u_HEARTBEAT u_LEAVE_GROUP u_SYNC_GROUP u_DESCRIBE_GROUPS u_LIST_GROUPS u_API_VERSIONS h0 n0) room_1.cells room_1.slots) T239 (mkF m 305 #[.val (.int p1), .val (.int p2), .val (.int p3), .val (.ref b2), .val (.ref b100), .val (.ref b170), .val (.int (10 : Int32)), .val (.int v254), .val (.int v261), .val (.int j266_0), .unset, .unset] []) := by
      intro j266_0 ej266_0
      refine own_iload X hx hby j266_0 at_305 rfl 307 rfl ?_
      refine own_i2s X hx hby at_307 308 rfl ?_
      obtain ⟨v308, e308⟩ : ∃ z : Int32, (j266_0.toInt16.toInt32) = z := ⟨_, rfl⟩
      refine own_istore X hx hby at_308 e308 (l' := #[.val (.int p1), .val (.int p2), .val (.int p3), .val (.ref b2), .val (.ref b100), .val (.ref b170), .val (.int (10 : Int32)), .val (.int v254), .val (.int v261), .val (.int j266_0), .val (.int v308), .unset]) rfl 310 rfl ?_
      refine own_iload X hx hby j266_0 at_310 rfl 312 rfl ?_
      refine own_aload X hx hby (.ref b100) at_312 rfl rfl 314 rfl ?_
      refine own_iload X hx hby (10 : Int32) at_314 rfl 316 rfl ?_
      refine own_iaload X hx hby hZ (0 : Int32) eT A_b100 (by decide) rfl at_316 317 rfl ?_
      have J317 : ∀ (j317_0 : Int32), j317_0 = (if j266_0 < (0 : Int32) then (0 : Int32) else (if (3 : Int32) < j266_0 then (0 : Int32) else (1 : Int32))) → Go p e below (FinQ s (Q0 Z p1 p2 p3 u_PRODUCE u_FETCH u_LIST_OFFSETS u_METADATA u_OFFSET_COMMIT u_OFFSET_FETCH u_FIND_COORDINATOR u_JOIN_GROUP u_HEARTBEAT u_LEAVE_GROUP u_SYNC_GROUP u_DESCRIBE_GROUPS u_LIST_GROUPS u_API_VERSIONS h0 n0) room_1.cells room_1.slots) T239 (mkF m 335 #[.val (.int p1), .val (.int p2), .val (.int p3), .val (.ref b2), .val (.ref b100), .val (.ref b170), .val (.int (10 : Int32)), .val (.int v254), .val (.int v261), .val (.int j266_0), .val (.int v308), .unset] [(.int j317_0)]) := by
        intro j317_0 ej317_0
        refine own_istore X hx hby at_335 rfl (l' := #[.val (.int p1), .val (.int p2), .val (.int p3), .val (.ref b2), .val (.ref b100), .val (.ref b170), .val (.int (10 : Int32)), .val (.int v254), .val (.int v261), .val (.int j266_0), .val (.int v308), .val (.int j317_0)]) rfl 337 rfl ?_
        refine own_aloadN X hx hby (.ref b2) at_337 rfl rfl 338 rfl ?_
        refine own_iload X hx hby (10 : Int32) at_338 rfl 340 rfl ?_
        refine own_aaload X hx hby hZ (.ref u_SYNC_GROUP) eT A_b2 rfl (by decide) rfl at_340 341 rfl ?_
        refine own_iload X hx hby v308 at_341 rfl 343 rfl ?_
        refine own_callV X hx hby hZ (st := []) [(.int v308)] rfl hown (hw _ (List.mem_of_getElem? (i := 34) rfl)) (hw _ (List.mem_of_getElem? (i := 35) rfl)) (hw _ (List.mem_of_getElem? (i := 37) rfl)) (hw _ (List.mem_of_getElem? (i := 36) rfl)) (hw _ (List.mem_of_getElem? (i := 3) rfl)) (hw _ (List.mem_of_getElem? (i := 38) rfl)) (E_u_SYNC_GROUP.ext (own_ext0 K)) (by decide) at_343 (rm1 l Z a0 hw u_SYNC_GROUP v308 (0 : Int32) (3 : Int32) h239 n0 Zs (F_minVersion_u_SYNC_GROUP.ext (own_ext0 K)) (F_maxVersion_u_SYNC_GROUP.ext (own_ext0 K))) eT pd_0 rfl (by rw [hml]; rfl) (by decide) 0 rfl (by decide) (by decide) (by decide) 346 rfl ?_
        intro T343 L9 v9 X hQ
        obtain ⟨rfl, N9, eT⟩ := hQ
        have N := Fr.app N N9
        show Go p e below _ T343 (mkF m 346 #[.val (.int p1), .val (.int p2), .val (.int p3), .val (.ref b2), .val (.ref b100), .val (.ref b170), .val (.int (10 : Int32)), .val (.int v254), .val (.int v261), .val (.int j266_0), .val (.int v308), .val (.int j317_0)] [(.int (f1 v308 (0 : Int32) (3 : Int32)))])
        refine own_iload X hx hby j317_0 at_346 rfl 348 rfl ?_
        have c348 : (f1 v308 (0 : Int32) (3 : Int32)) = j317_0 := own_v _ _ _ _ _ _ _ _ e261 (by decide) (by decide) ej266_0 e308 _ ej317_0
        refine own_icmp_ne X hx hby at_348 355 351 (by decide) rfl (fun q => absurd c348 q) (fun _ => ?_)
        refine own_iconst X hx hby (1 : Int32) at_351 rfl 352 rfl ?_
        refine own_goto X hx hby at_352 356 (by decide) ?_
        refine own_retN X hx hby hret hlk (t := .boolean) (z' := (1 : Int32)) (by simp) at_356 (by decide) (by decide) rfl ?_
        rw [eT]
        exact ⟨rfl, N⟩
      refine own_icmp_lt X hx hby at_317 334 320 (by decide) rfl (fun c317 => ?_) (fun c317 => ?_)
      · skip
        refine own_iconst X hx hby (0 : Int32) at_334 rfl 335 rfl ?_
        exact J317 _ (by rw [if_pos c317])
      · skip
        refine own_iload X hx hby j266_0 at_320 rfl 322 rfl ?_
        refine own_aload X hx hby (.ref b170) at_322 rfl rfl 324 rfl ?_
        refine own_iload X hx hby (10 : Int32) at_324 rfl 326 rfl ?_
        refine own_iaload X hx hby hZ (3 : Int32) eT A_b170 (by decide) rfl at_326 327 rfl ?_
        refine own_icmp_gt X hx hby at_327 334 330 (by decide) rfl (fun c327 => ?_) (fun c327 => ?_)
        · skip
          refine own_iconst X hx hby (0 : Int32) at_334 rfl 335 rfl ?_
          exact J317 _ (by rw [if_neg c317, if_pos c327])
        · skip
          refine own_iconst X hx hby (1 : Int32) at_330 rfl 331 rfl ?_
          refine own_goto X hx hby at_331 335 (by decide) ?_
          exact J317 _ (by rw [if_neg c317, if_neg c327])
    refine own_icmp_ne X hx hby at_266 282 269 (by decide) rfl (fun c266 => ?_) (fun c266 => ?_)
    · skip
      refine own_iload X hx hby v254 at_282 rfl 284 rfl ?_
      refine own_iconst X hx hby (2 : Int32) at_284 rfl 285 rfl ?_
      refine own_icmp_ne X hx hby at_285 301 288 (by decide) rfl (fun c285 => ?_) (fun c285 => ?_)
      · skip
        refine own_iloadN X hx hby p3 at_301 rfl 302 rfl ?_
        refine own_i2s X hx hby at_302 303 rfl ?_
        refine own_istore X hx hby at_303 rfl (l' := #[.val (.int p1), .val (.int p2), .val (.int p3), .val (.ref b2), .val (.ref b100), .val (.ref b170), .val (.int (10 : Int32)), .val (.int v254), .val (.int v261), .val (.int (p3.toInt16.toInt32)), .unset, .unset]) rfl 305 rfl ?_
        exact J266 _ (by rw [if_neg c266, if_neg c285])
      · skip
        refine own_aload X hx hby (.ref b170) at_288 rfl rfl 290 rfl ?_
        refine own_iload X hx hby (10 : Int32) at_290 rfl 292 rfl ?_
        refine own_iaload X hx hby hZ (3 : Int32) eT A_b170 (by decide) rfl at_292 293 rfl ?_
        refine own_iload X hx hby v261 at_293 rfl 295 rfl ?_
        refine own_iadd X hx hby at_295 296 rfl ?_
        refine own_istore X hx hby at_296 rfl (l' := #[.val (.int p1), .val (.int p2), .val (.int p3), .val (.ref b2), .val (.ref b100), .val (.ref b170), .val (.int (10 : Int32)), .val (.int v254), .val (.int v261), .val (.int ((3 : Int32) + v261)), .unset, .unset]) rfl 298 rfl ?_
        refine own_goto X hx hby at_298 305 (by decide) ?_
        exact J266 _ (by rw [if_neg c266, if_pos c285])
    · skip
      refine own_aload X hx hby (.ref b100) at_269 rfl rfl 271 rfl ?_
      refine own_iload X hx hby (10 : Int32) at_271 rfl 273 rfl ?_
      refine own_iaload X hx hby hZ (0 : Int32) eT A_b100 (by decide) rfl at_273 274 rfl ?_
      refine own_iload X hx hby v261 at_274 rfl 276 rfl ?_
      refine own_iadd X hx hby at_276 277 rfl ?_
      refine own_istore X hx hby at_277 rfl (l' := #[.val (.int p1), .val (.int p2), .val (.int p3), .val (.ref b2), .val (.ref b100), .val (.ref b170), .val (.int (10 : Int32)), .val (.int v254), .val (.int v261), .val (.int ((0 : Int32) + v261)), .unset, .unset]) rfl 279 rfl ?_
      refine own_goto X hx hby at_279 305 (by decide) ?_
      exact J266 _ (by rw [if_pos c266])
  · skip
    refine own_iloadN X hx hby p2 at_251 rfl 252 rfl ?_
    refine own_iconst X hx hby (3 : Int32) at_252 rfl 253 rfl ?_
    refine own_iand X hx hby at_253 254 rfl ?_
    obtain ⟨v254, e254⟩ : ∃ z : Int32, (p2 &&& (3 : Int32)) = z := ⟨_, rfl⟩
    refine own_istore X hx hby at_254 e254 (l' := #[.val (.int p1), .val (.int p2), .val (.int p3), .val (.ref b2), .val (.ref b100), .val (.ref b170), .val (.int (11 : Int32)), .val (.int v254), .unset, .unset, .unset, .unset]) rfl 256 rfl ?_
    refine own_iloadN X hx hby p3 at_256 rfl 257 rfl ?_
    refine own_iconst X hx hby (3 : Int32) at_257 rfl 258 rfl ?_
    refine own_iand X hx hby at_258 259 rfl ?_
    refine own_iconst X hx hby (1 : Int32) at_259 rfl 260 rfl ?_
    refine own_isub X hx hby at_260 261 rfl ?_
    obtain ⟨v261, e261⟩ : ∃ z : Int32, ((p3 &&& (3 : Int32)) - (1 : Int32)) = z := ⟨_, rfl⟩
    refine own_istore X hx hby at_261 e261 (l' := #[.val (.int p1), .val (.int p2), .val (.int p3), .val (.ref b2), .val (.ref b100), .val (.ref b170), .val (.int (11 : Int32)), .val (.int v254), .val (.int v261), .unset, .unset, .unset]) rfl 263 rfl ?_
    refine own_iload X hx hby v254 at_263 rfl 265 rfl ?_
    refine own_iconst X hx hby (1 : Int32) at_265 rfl 266 rfl ?_
    have J266 : ∀ (j266_0 : Int32), j266_0 = (if v254 = (1 : Int32) then ((0 : Int32) + v261) else (if v254 = (2 : Int32) then ((4 : Int32) + v261) else (p3.toInt16.toInt32))) → Go p e below (FinQ s (Q0 Z p1 p2 p3 u_PRODUCE u_FETCH u_LIST_OFFSETS u_METADATA u_OFFSET_COMMIT u_OFFSET_FETCH u_FIND_COORDINATOR u_JOIN_GROUP u_HEARTBEAT u_LEAVE_GROUP u_SYNC_GROUP u_DESCRIBE_GROUPS u_LIST_GROUPS u_API_VERSIONS h0 n0) room_1.cells room_1.slots) T239 (mkF m 305 #[.val (.int p1), .val (.int p2), .val (.int p3), .val (.ref b2), .val (.ref b100), .val (.ref b170), .val (.int (11 : Int32)), .val (.int v254), .val (.int v261), .val (.int j266_0), .unset, .unset] []) := by
      intro j266_0 ej266_0
      refine own_iload X hx hby j266_0 at_305 rfl 307 rfl ?_
      refine own_i2s X hx hby at_307 308 rfl ?_
      obtain ⟨v308, e308⟩ : ∃ z : Int32, (j266_0.toInt16.toInt32) = z := ⟨_, rfl⟩
      refine own_istore X hx hby at_308 e308 (l' := #[.val (.int p1), .val (.int p2), .val (.int p3), .val (.ref b2), .val (.ref b100), .val (.ref b170), .val (.int (11 : Int32)), .val (.int v254), .val (.int v261), .val (.int j266_0), .val (.int v308), .unset]) rfl 310 rfl ?_
      refine own_iload X hx hby j266_0 at_310 rfl 312 rfl ?_
      refine own_aload X hx hby (.ref b100) at_312 rfl rfl 314 rfl ?_
      refine own_iload X hx hby (11 : Int32) at_314 rfl 316 rfl ?_
      refine own_iaload X hx hby hZ (0 : Int32) eT A_b100 (by decide) rfl at_316 317 rfl ?_
      have J317 : ∀ (j317_0 : Int32), j317_0 = (if j266_0 < (0 : Int32) then (0 : Int32) else (if (4 : Int32) < j266_0 then (0 : Int32) else (1 : Int32))) → Go p e below (FinQ s (Q0 Z p1 p2 p3 u_PRODUCE u_FETCH u_LIST_OFFSETS u_METADATA u_OFFSET_COMMIT u_OFFSET_FETCH u_FIND_COORDINATOR u_JOIN_GROUP u_HEARTBEAT u_LEAVE_GROUP u_SYNC_GROUP u_DESCRIBE_GROUPS u_LIST_GROUPS u_API_VERSIONS h0 n0) room_1.cells room_1.slots) T239 (mkF m 335 #[.val (.int p1), .val (.int p2), .val (.int p3), .val (.ref b2), .val (.ref b100), .val (.ref b170), .val (.int (11 : Int32)), .val (.int v254), .val (.int v261), .val (.int j266_0), .val (.int v308), .unset] [(.int j317_0)]) := by
        intro j317_0 ej317_0
        refine own_istore X hx hby at_335 rfl (l' := #[.val (.int p1), .val (.int p2), .val (.int p3), .val (.ref b2), .val (.ref b100), .val (.ref b170), .val (.int (11 : Int32)), .val (.int v254), .val (.int v261), .val (.int j266_0), .val (.int v308), .val (.int j317_0)]) rfl 337 rfl ?_
        refine own_aloadN X hx hby (.ref b2) at_337 rfl rfl 338 rfl ?_
        refine own_iload X hx hby (11 : Int32) at_338 rfl 340 rfl ?_
        refine own_aaload X hx hby hZ (.ref u_DESCRIBE_GROUPS) eT A_b2 rfl (by decide) rfl at_340 341 rfl ?_
        refine own_iload X hx hby v308 at_341 rfl 343 rfl ?_
        refine own_callV X hx hby hZ (st := []) [(.int v308)] rfl hown (hw _ (List.mem_of_getElem? (i := 34) rfl)) (hw _ (List.mem_of_getElem? (i := 35) rfl)) (hw _ (List.mem_of_getElem? (i := 37) rfl)) (hw _ (List.mem_of_getElem? (i := 36) rfl)) (hw _ (List.mem_of_getElem? (i := 3) rfl)) (hw _ (List.mem_of_getElem? (i := 38) rfl)) (E_u_DESCRIBE_GROUPS.ext (own_ext0 K)) (by decide) at_343 (rm1 l Z a0 hw u_DESCRIBE_GROUPS v308 (0 : Int32) (4 : Int32) h239 n0 Zs (F_minVersion_u_DESCRIBE_GROUPS.ext (own_ext0 K)) (F_maxVersion_u_DESCRIBE_GROUPS.ext (own_ext0 K))) eT pd_0 rfl (by rw [hml]; rfl) (by decide) 0 rfl (by decide) (by decide) (by decide) 346 rfl ?_
        intro T343 L9 v9 X hQ
        obtain ⟨rfl, N9, eT⟩ := hQ
        have N := Fr.app N N9
        show Go p e below _ T343 (mkF m 346 #[.val (.int p1), .val (.int p2), .val (.int p3), .val (.ref b2), .val (.ref b100), .val (.ref b170), .val (.int (11 : Int32)), .val (.int v254), .val (.int v261), .val (.int j266_0), .val (.int v308), .val (.int j317_0)] [(.int (f1 v308 (0 : Int32) (4 : Int32)))])
        refine own_iload X hx hby j317_0 at_346 rfl 348 rfl ?_
        have c348 : (f1 v308 (0 : Int32) (4 : Int32)) = j317_0 := own_v _ _ _ _ _ _ _ _ e261 (by decide) (by decide) ej266_0 e308 _ ej317_0
        refine own_icmp_ne X hx hby at_348 355 351 (by decide) rfl (fun q => absurd c348 q) (fun _ => ?_)
        refine own_iconst X hx hby (1 : Int32) at_351 rfl 352 rfl ?_
        refine own_goto X hx hby at_352 356 (by decide) ?_
        refine own_retN X hx hby hret hlk (t := .boolean) (z' := (1 : Int32)) (by simp) at_356 (by decide) (by decide) rfl ?_
        rw [eT]
        exact ⟨rfl, N⟩
      refine own_icmp_lt X hx hby at_317 334 320 (by decide) rfl (fun c317 => ?_) (fun c317 => ?_)
      · skip
        refine own_iconst X hx hby (0 : Int32) at_334 rfl 335 rfl ?_
        exact J317 _ (by rw [if_pos c317])
      · skip
        refine own_iload X hx hby j266_0 at_320 rfl 322 rfl ?_
        refine own_aload X hx hby (.ref b170) at_322 rfl rfl 324 rfl ?_
        refine own_iload X hx hby (11 : Int32) at_324 rfl 326 rfl ?_
        refine own_iaload X hx hby hZ (4 : Int32) eT A_b170 (by decide) rfl at_326 327 rfl ?_
        refine own_icmp_gt X hx hby at_327 334 330 (by decide) rfl (fun c327 => ?_) (fun c327 => ?_)
        · skip
          refine own_iconst X hx hby (0 : Int32) at_334 rfl 335 rfl ?_
          exact J317 _ (by rw [if_neg c317, if_pos c327])
        · skip
          refine own_iconst X hx hby (1 : Int32) at_330 rfl 331 rfl ?_
          refine own_goto X hx hby at_331 335 (by decide) ?_
          exact J317 _ (by rw [if_neg c317, if_neg c327])
    refine own_icmp_ne X hx hby at_266 282 269 (by decide) rfl (fun c266 => ?_) (fun c266 => ?_)
    · skip
      refine own_iload X hx hby v254 at_282 rfl 284 rfl ?_
      refine own_iconst X hx hby (2 : Int32) at_284 rfl 285 rfl ?_
      refine own_icmp_ne X hx hby at_285 301 288 (by decide) rfl (fun c285 => ?_) (fun c285 => ?_)
      · skip
        refine own_iloadN X hx hby p3 at_301 rfl 302 rfl ?_
        refine own_i2s X hx hby at_302 303 rfl ?_
        refine own_istore X hx hby at_303 rfl (l' := #[.val (.int p1), .val (.int p2), .val (.int p3), .val (.ref b2), .val (.ref b100), .val (.ref b170), .val (.int (11 : Int32)), .val (.int v254), .val (.int v261), .val (.int (p3.toInt16.toInt32)), .unset, .unset]) rfl 305 rfl ?_
        exact J266 _ (by rw [if_neg c266, if_neg c285])
      · skip
        refine own_aload X hx hby (.ref b170) at_288 rfl rfl 290 rfl ?_
        refine own_iload X hx hby (11 : Int32) at_290 rfl 292 rfl ?_
        refine own_iaload X hx hby hZ (4 : Int32) eT A_b170 (by decide) rfl at_292 293 rfl ?_
        refine own_iload X hx hby v261 at_293 rfl 295 rfl ?_
        refine own_iadd X hx hby at_295 296 rfl ?_
        refine own_istore X hx hby at_296 rfl (l' := #[.val (.int p1), .val (.int p2), .val (.int p3), .val (.ref b2), .val (.ref b100), .val (.ref b170), .val (.int (11 : Int32)), .val (.int v254), .val (.int v261), .val (.int ((4 : Int32) + v261)), .unset, .unset]) rfl 298 rfl ?_
        refine own_goto X hx hby at_298 305 (by decide) ?_
        exact J266 _ (by rw [if_neg c266, if_pos c285])
    · skip
      refine own_aload X hx hby (.ref b100) at_269 rfl rfl 271 rfl ?_
      refine own_iload X hx hby (11 : Int32) at_271 rfl 273 rfl ?_
      refine own_iaload X hx hby hZ (0 : Int32) eT A_b100 (by decide) rfl at_273 274 rfl ?_
      refine own_iload X hx hby v261 at_274 rfl 276 rfl ?_
      refine own_iadd X hx hby at_276 277 rfl ?_
      refine own_istore X hx hby at_277 rfl (l' := #[.val (.int p1), .val (.int p2), .val (.int p3), .val (.ref b2), .val (.ref b100), .val (.ref b170), .val (.int (11 : Int32)), .val (.int v254), .val (.int v261), .val (.int ((0 : Int32) + v261)), .unset, .unset]) rfl 279 rfl ?_
      refine own_goto X hx hby at_279 305 (by decide) ?_
      exact J266 _ (by rw [if_pos c266])
  · skip
    refine own_iloadN X hx hby p2 at_251 rfl 252 rfl ?_
    refine own_iconst X hx hby (3 : Int32) at_252 rfl 253 rfl ?_
    refine own_iand X hx hby at_253 254 rfl ?_
    obtain ⟨v254, e254⟩ : ∃ z : Int32, (p2 &&& (3 : Int32)) = z := ⟨_, rfl⟩
    refine own_istore X hx hby at_254 e254 (l' := #[.val (.int p1), .val (.int p2), .val (.int p3), .val (.ref b2), .val (.ref b100), .val (.ref b170), .val (.int (12 : Int32)), .val (.int v254), .unset, .unset, .unset, .unset]) rfl 256 rfl ?_
    refine own_iloadN X hx hby p3 at_256 rfl 257 rfl ?_
    refine own_iconst X hx hby (3 : Int32) at_257 rfl 258 rfl ?_
    refine own_iand X hx hby at_258 259 rfl ?_
    refine own_iconst X hx hby (1 : Int32) at_259 rfl 260 rfl ?_
    refine own_isub X hx hby at_260 261 rfl ?_
    obtain ⟨v261, e261⟩ : ∃ z : Int32, ((p3 &&& (3 : Int32)) - (1 : Int32)) = z := ⟨_, rfl⟩
    refine own_istore X hx hby at_261 e261 (l' := #[.val (.int p1), .val (.int p2), .val (.int p3), .val (.ref b2), .val (.ref b100), .val (.ref b170), .val (.int (12 : Int32)), .val (.int v254), .val (.int v261), .unset, .unset, .unset]) rfl 263 rfl ?_
    refine own_iload X hx hby v254 at_263 rfl 265 rfl ?_
    refine own_iconst X hx hby (1 : Int32) at_265 rfl 266 rfl ?_
    have J266 : ∀ (j266_0 : Int32), j266_0 = (if v254 = (1 : Int32) then ((0 : Int32) + v261) else (if v254 = (2 : Int32) then ((2 : Int32) + v261) else (p3.toInt16.toInt32))) → Go p e below (FinQ s (Q0 Z p1 p2 p3 u_PRODUCE u_FETCH u_LIST_OFFSETS u_METADATA u_OFFSET_COMMIT u_OFFSET_FETCH u_FIND_COORDINATOR u_JOIN_GROUP u_HEARTBEAT u_LEAVE_GROUP u_SYNC_GROUP u_DESCRIBE_GROUPS u_LIST_GROUPS u_API_VERSIONS h0 n0) room_1.cells room_1.slots) T239 (mkF m 305 #[.val (.int p1), .val (.int p2), .val (.int p3), .val (.ref b2), .val (.ref b100), .val (.ref b170), .val (.int (12 : Int32)), .val (.int v254), .val (.int v261), .val (.int j266_0), .unset, .unset] []) := by
      intro j266_0 ej266_0
      refine own_iload X hx hby j266_0 at_305 rfl 307 rfl ?_
      refine own_i2s X hx hby at_307 308 rfl ?_
      obtain ⟨v308, e308⟩ : ∃ z : Int32, (j266_0.toInt16.toInt32) = z := ⟨_, rfl⟩
      refine own_istore X hx hby at_308 e308 (l' := #[.val (.int p1), .val (.int p2), .val (.int p3), .val (.ref b2), .val (.ref b100), .val (.ref b170), .val (.int (12 : Int32)), .val (.int v254), .val (.int v261), .val (.int j266_0), .val (.int v308), .unset]) rfl 310 rfl ?_
      refine own_iload X hx hby j266_0 at_310 rfl 312 rfl ?_
      refine own_aload X hx hby (.ref b100) at_312 rfl rfl 314 rfl ?_
      refine own_iload X hx hby (12 : Int32) at_314 rfl 316 rfl ?_
      refine own_iaload X hx hby hZ (0 : Int32) eT A_b100 (by decide) rfl at_316 317 rfl ?_
      have J317 : ∀ (j317_0 : Int32), j317_0 = (if j266_0 < (0 : Int32) then (0 : Int32) else (if (2 : Int32) < j266_0 then (0 : Int32) else (1 : Int32))) → Go p e below (FinQ s (Q0 Z p1 p2 p3 u_PRODUCE u_FETCH u_LIST_OFFSETS u_METADATA u_OFFSET_COMMIT u_OFFSET_FETCH u_FIND_COORDINATOR u_JOIN_GROUP u_HEARTBEAT u_LEAVE_GROUP u_SYNC_GROUP u_DESCRIBE_GROUPS u_LIST_GROUPS u_API_VERSIONS h0 n0) room_1.cells room_1.slots) T239 (mkF m 335 #[.val (.int p1), .val (.int p2), .val (.int p3), .val (.ref b2), .val (.ref b100), .val (.ref b170), .val (.int (12 : Int32)), .val (.int v254), .val (.int v261), .val (.int j266_0), .val (.int v308), .unset] [(.int j317_0)]) := by
        intro j317_0 ej317_0
        refine own_istore X hx hby at_335 rfl (l' := #[.val (.int p1), .val (.int p2), .val (.int p3), .val (.ref b2), .val (.ref b100), .val (.ref b170), .val (.int (12 : Int32)), .val (.int v254), .val (.int v261), .val (.int j266_0), .val (.int v308), .val (.int j317_0)]) rfl 337 rfl ?_
        refine own_aloadN X hx hby (.ref b2) at_337 rfl rfl 338 rfl ?_
        refine own_iload X hx hby (12 : Int32) at_338 rfl 340 rfl ?_
        refine own_aaload X hx hby hZ (.ref u_LIST_GROUPS) eT A_b2 rfl (by decide) rfl at_340 341 rfl ?_
        refine own_iload X hx hby v308 at_341 rfl 343 rfl ?_
        refine own_callV X hx hby hZ (st := []) [(.int v308)] rfl hown (hw _ (List.mem_of_getElem? (i := 34) rfl)) (hw _ (List.mem_of_getElem? (i := 35) rfl)) (hw _ (List.mem_of_getElem? (i := 37) rfl)) (hw _ (List.mem_of_getElem? (i := 36) rfl)) (hw _ (List.mem_of_getElem? (i := 3) rfl)) (hw _ (List.mem_of_getElem? (i := 38) rfl)) (E_u_LIST_GROUPS.ext (own_ext0 K)) (by decide) at_343 (rm1 l Z a0 hw u_LIST_GROUPS v308 (0 : Int32) (2 : Int32) h239 n0 Zs (F_minVersion_u_LIST_GROUPS.ext (own_ext0 K)) (F_maxVersion_u_LIST_GROUPS.ext (own_ext0 K))) eT pd_0 rfl (by rw [hml]; rfl) (by decide) 0 rfl (by decide) (by decide) (by decide) 346 rfl ?_
        intro T343 L9 v9 X hQ
        obtain ⟨rfl, N9, eT⟩ := hQ
        have N := Fr.app N N9
        show Go p e below _ T343 (mkF m 346 #[.val (.int p1), .val (.int p2), .val (.int p3), .val (.ref b2), .val (.ref b100), .val (.ref b170), .val (.int (12 : Int32)), .val (.int v254), .val (.int v261), .val (.int j266_0), .val (.int v308), .val (.int j317_0)] [(.int (f1 v308 (0 : Int32) (2 : Int32)))])
        refine own_iload X hx hby j317_0 at_346 rfl 348 rfl ?_
        have c348 : (f1 v308 (0 : Int32) (2 : Int32)) = j317_0 := own_v _ _ _ _ _ _ _ _ e261 (by decide) (by decide) ej266_0 e308 _ ej317_0
        refine own_icmp_ne X hx hby at_348 355 351 (by decide) rfl (fun q => absurd c348 q) (fun _ => ?_)
        refine own_iconst X hx hby (1 : Int32) at_351 rfl 352 rfl ?_
        refine own_goto X hx hby at_352 356 (by decide) ?_
        refine own_retN X hx hby hret hlk (t := .boolean) (z' := (1 : Int32)) (by simp) at_356 (by decide) (by decide) rfl ?_
        rw [eT]
        exact ⟨rfl, N⟩
      refine own_icmp_lt X hx hby at_317 334 320 (by decide) rfl (fun c317 => ?_) (fun c317 => ?_)
      · skip
        refine own_iconst X hx hby (0 : Int32) at_334 rfl 335 rfl ?_
        exact J317 _ (by rw [if_pos c317])
      · skip
        refine own_iload X hx hby j266_0 at_320 rfl 322 rfl ?_
        refine own_aload X hx hby (.ref b170) at_322 rfl rfl 324 rfl ?_
        refine own_iload X hx hby (12 : Int32) at_324 rfl 326 rfl ?_
        refine own_iaload X hx hby hZ (2 : Int32) eT A_b170 (by decide) rfl at_326 327 rfl ?_
        refine own_icmp_gt X hx hby at_327 334 330 (by decide) rfl (fun c327 => ?_) (fun c327 => ?_)
        · skip
          refine own_iconst X hx hby (0 : Int32) at_334 rfl 335 rfl ?_
          exact J317 _ (by rw [if_neg c317, if_pos c327])
        · skip
          refine own_iconst X hx hby (1 : Int32) at_330 rfl 331 rfl ?_
          refine own_goto X hx hby at_331 335 (by decide) ?_
          exact J317 _ (by rw [if_neg c317, if_neg c327])
    refine own_icmp_ne X hx hby at_266 282 269 (by decide) rfl (fun c266 => ?_) (fun c266 => ?_)
    · skip
      refine own_iload X hx hby v254 at_282 rfl 284 rfl ?_
      refine own_iconst X hx hby (2 : Int32) at_284 rfl 285 rfl ?_
      refine own_icmp_ne X hx hby at_285 301 288 (by decide) rfl (fun c285 => ?_) (fun c285 => ?_)
      · skip
        refine own_iloadN X hx hby p3 at_301 rfl 302 rfl ?_
        refine own_i2s X hx hby at_302 303 rfl ?_
        refine own_istore X hx hby at_303 rfl (l' := #[.val (.int p1), .val (.int p2), .val (.int p3), .val (.ref b2), .val (.ref b100), .val (.ref b170), .val (.int (12 : Int32)), .val (.int v254), .val (.int v261), .val (.int (p3.toInt16.toInt32)), .unset, .unset]) rfl 305 rfl ?_
        exact J266 _ (by rw [if_neg c266, if_neg c285])
      · skip
        refine own_aload X hx hby (.ref b170) at_288 rfl rfl 290 rfl ?_
        refine own_iload X hx hby (12 : Int32) at_290 rfl 292 rfl ?_
        refine own_iaload X hx hby hZ (2 : Int32) eT A_b170 (by decide) rfl at_292 293 rfl ?_
        refine own_iload X hx hby v261 at_293 rfl 295 rfl ?_
        refine own_iadd X hx hby at_295 296 rfl ?_
        refine own_istore X hx hby at_296 rfl (l' := #[.val (.int p1), .val (.int p2), .val (.int p3), .val (.ref b2), .val (.ref b100), .val (.ref b170), .val (.int (12 : Int32)), .val (.int v254), .val (.int v261), .val (.int ((2 : Int32) + v261)), .unset, .unset]) rfl 298 rfl ?_
        refine own_goto X hx hby at_298 305 (by decide) ?_
        exact J266 _ (by rw [if_neg c266, if_pos c285])
    · skip
      refine own_aload X hx hby (.ref b100) at_269 rfl rfl 271 rfl ?_
      refine own_iload X hx hby (12 : Int32) at_271 rfl 273 rfl ?_
      refine own_iaload X hx hby hZ (0 : Int32) eT A_b100 (by decide) rfl at_273 274 rfl ?_
      refine own_iload X hx hby v261 at_274 rfl 276 rfl ?_
      refine own_iadd X hx hby at_276 277 rfl ?_
      refine own_istore X hx hby at_277 rfl (l' := #[.val (.int p1), .val (.int p2), .val (.int p3), .val (.ref b2), .val (.ref b100), .val (.ref b170), .val (.int (12 : Int32)), .val (.int v254), .val (.int v261), .val (.int ((0 : Int32) + v261)), .unset, .unset]) rfl 279 rfl ?_
      refine own_goto X hx hby at_279 305 (by decide) ?_
      exact J266 _ (by rw [if_pos c266])
  · skip
    refine own_iloadN X hx hby p2 at_251 rfl 252 rfl ?_
    refine own_iconst X hx hby (3 : Int32) at_252 rfl 253 rfl ?_
    refine own_iand X hx hby at_253 254 rfl ?_
    obtain ⟨v254, e254⟩ : ∃ z : Int32, (p2 &&& (3 : Int32)) = z := ⟨_, rfl⟩
    refine own_istore X hx hby at_254 e254 (l' := #[.val (.int p1), .val (.int p2), .val (.int p3), .val (.ref b2), .val (.ref b100), .val (.ref b170), .val (.int (13 : Int32)), .val (.int v254), .unset, .unset, .unset, .unset]) rfl 256 rfl ?_
    refine own_iloadN X hx hby p3 at_256 rfl 257 rfl ?_
    refine own_iconst X hx hby (3 : Int32) at_257 rfl 258 rfl ?_
    refine own_iand X hx hby at_258 259 rfl ?_
    refine own_iconst X hx hby (1 : Int32) at_259 rfl 260 rfl ?_
    refine own_isub X hx hby at_260 261 rfl ?_
    obtain ⟨v261, e261⟩ : ∃ z : Int32, ((p3 &&& (3 : Int32)) - (1 : Int32)) = z := ⟨_, rfl⟩
    refine own_istore X hx hby at_261 e261 (l' := #[.val (.int p1), .val (.int p2), .val (.int p3), .val (.ref b2), .val (.ref b100), .val (.ref b170), .val (.int (13 : Int32)), .val (.int v254), .val (.int v261), .unset, .unset, .unset]) rfl 263 rfl ?_
    refine own_iload X hx hby v254 at_263 rfl 265 rfl ?_
    refine own_iconst X hx hby (1 : Int32) at_265 rfl 266 rfl ?_
    have J266 : ∀ (j266_0 : Int32), j266_0 = (if v254 = (1 : Int32) then ((0 : Int32) + v261) else (if v254 = (2 : Int32) then ((4 : Int32) + v261) else (p3.toInt16.toInt32))) → Go p e below (FinQ s (Q0 Z p1 p2 p3 u_PRODUCE u_FETCH u_LIST_OFFSETS u_METADATA u_OFFSET_COMMIT u_OFFSET_FETCH u_FIND_COORDINATOR u_JOIN_GROUP u_HEARTBEAT u_LEAVE_GROUP u_SYNC_GROUP u_DESCRIBE_GROUPS u_LIST_GROUPS u_API_VERSIONS h0 n0) room_1.cells room_1.slots) T239 (mkF m 305 #[.val (.int p1), .val (.int p2), .val (.int p3), .val (.ref b2), .val (.ref b100), .val (.ref b170), .val (.int (13 : Int32)), .val (.int v254), .val (.int v261), .val (.int j266_0), .unset, .unset] []) := by
      intro j266_0 ej266_0
      refine own_iload X hx hby j266_0 at_305 rfl 307 rfl ?_
      refine own_i2s X hx hby at_307 308 rfl ?_
      obtain ⟨v308, e308⟩ : ∃ z : Int32, (j266_0.toInt16.toInt32) = z := ⟨_, rfl⟩
      refine own_istore X hx hby at_308 e308 (l' := #[.val (.int p1), .val (.int p2), .val (.int p3), .val (.ref b2), .val (.ref b100), .val (.ref b170), .val (.int (13 : Int32)), .val (.int v254), .val (.int v261), .val (.int j266_0), .val (.int v308), .unset]) rfl 310 rfl ?_
      refine own_iload X hx hby j266_0 at_310 rfl 312 rfl ?_
      refine own_aload X hx hby (.ref b100) at_312 rfl rfl 314 rfl ?_
      refine own_iload X hx hby (13 : Int32) at_314 rfl 316 rfl ?_
      refine own_iaload X hx hby hZ (0 : Int32) eT A_b100 (by decide) rfl at_316 317 rfl ?_
      have J317 : ∀ (j317_0 : Int32), j317_0 = (if j266_0 < (0 : Int32) then (0 : Int32) else (if (4 : Int32) < j266_0 then (0 : Int32) else (1 : Int32))) → Go p e below (FinQ s (Q0 Z p1 p2 p3 u_PRODUCE u_FETCH u_LIST_OFFSETS u_METADATA u_OFFSET_COMMIT u_OFFSET_FETCH u_FIND_COORDINATOR u_JOIN_GROUP u_HEARTBEAT u_LEAVE_GROUP u_SYNC_GROUP u_DESCRIBE_GROUPS u_LIST_GROUPS u_API_VERSIONS h0 n0) room_1.cells room_1.slots) T239 (mkF m 335 #[.val (.int p1), .val (.int p2), .val (.int p3), .val (.ref b2), .val (.ref b100), .val (.ref b170), .val (.int (13 : Int32)), .val (.int v254), .val (.int v261), .val (.int j266_0), .val (.int v308), .unset] [(.int j317_0)]) := by
        intro j317_0 ej317_0
        refine own_istore X hx hby at_335 rfl (l' := #[.val (.int p1), .val (.int p2), .val (.int p3), .val (.ref b2), .val (.ref b100), .val (.ref b170), .val (.int (13 : Int32)), .val (.int v254), .val (.int v261), .val (.int j266_0), .val (.int v308), .val (.int j317_0)]) rfl 337 rfl ?_
        refine own_aloadN X hx hby (.ref b2) at_337 rfl rfl 338 rfl ?_
        refine own_iload X hx hby (13 : Int32) at_338 rfl 340 rfl ?_
        refine own_aaload X hx hby hZ (.ref u_API_VERSIONS) eT A_b2 rfl (by decide) rfl at_340 341 rfl ?_
        refine own_iload X hx hby v308 at_341 rfl 343 rfl ?_
        refine own_callV X hx hby hZ (st := []) [(.int v308)] rfl hown (hw _ (List.mem_of_getElem? (i := 34) rfl)) (hw _ (List.mem_of_getElem? (i := 35) rfl)) (hw _ (List.mem_of_getElem? (i := 37) rfl)) (hw _ (List.mem_of_getElem? (i := 36) rfl)) (hw _ (List.mem_of_getElem? (i := 3) rfl)) (hw _ (List.mem_of_getElem? (i := 38) rfl)) (E_u_API_VERSIONS.ext (own_ext0 K)) (by decide) at_343 (rm1 l Z a0 hw u_API_VERSIONS v308 (0 : Int32) (4 : Int32) h239 n0 Zs (F_minVersion_u_API_VERSIONS.ext (own_ext0 K)) (F_maxVersion_u_API_VERSIONS.ext (own_ext0 K))) eT pd_0 rfl (by rw [hml]; rfl) (by decide) 0 rfl (by decide) (by decide) (by decide) 346 rfl ?_
        intro T343 L9 v9 X hQ
        obtain ⟨rfl, N9, eT⟩ := hQ
        have N := Fr.app N N9
        show Go p e below _ T343 (mkF m 346 #[.val (.int p1), .val (.int p2), .val (.int p3), .val (.ref b2), .val (.ref b100), .val (.ref b170), .val (.int (13 : Int32)), .val (.int v254), .val (.int v261), .val (.int j266_0), .val (.int v308), .val (.int j317_0)] [(.int (f1 v308 (0 : Int32) (4 : Int32)))])
        refine own_iload X hx hby j317_0 at_346 rfl 348 rfl ?_
        have c348 : (f1 v308 (0 : Int32) (4 : Int32)) = j317_0 := own_v _ _ _ _ _ _ _ _ e261 (by decide) (by decide) ej266_0 e308 _ ej317_0
        refine own_icmp_ne X hx hby at_348 355 351 (by decide) rfl (fun q => absurd c348 q) (fun _ => ?_)
        refine own_iconst X hx hby (1 : Int32) at_351 rfl 352 rfl ?_
        refine own_goto X hx hby at_352 356 (by decide) ?_
        refine own_retN X hx hby hret hlk (t := .boolean) (z' := (1 : Int32)) (by simp) at_356 (by decide) (by decide) rfl ?_
        rw [eT]
        exact ⟨rfl, N⟩
      refine own_icmp_lt X hx hby at_317 334 320 (by decide) rfl (fun c317 => ?_) (fun c317 => ?_)
      · skip
        refine own_iconst X hx hby (0 : Int32) at_334 rfl 335 rfl ?_
        exact J317 _ (by rw [if_pos c317])
      · skip
        refine own_iload X hx hby j266_0 at_320 rfl 322 rfl ?_
        refine own_aload X hx hby (.ref b170) at_322 rfl rfl 324 rfl ?_
        refine own_iload X hx hby (13 : Int32) at_324 rfl 326 rfl ?_
        refine own_iaload X hx hby hZ (4 : Int32) eT A_b170 (by decide) rfl at_326 327 rfl ?_
        refine own_icmp_gt X hx hby at_327 334 330 (by decide) rfl (fun c327 => ?_) (fun c327 => ?_)
        · skip
          refine own_iconst X hx hby (0 : Int32) at_334 rfl 335 rfl ?_
          exact J317 _ (by rw [if_neg c317, if_pos c327])
        · skip
          refine own_iconst X hx hby (1 : Int32) at_330 rfl 331 rfl ?_
          refine own_goto X hx hby at_331 335 (by decide) ?_
          exact J317 _ (by rw [if_neg c317, if_neg c327])
    refine own_icmp_ne X hx hby at_266 282 269 (by decide) rfl (fun c266 => ?_) (fun c266 => ?_)
    · skip
      refine own_iload X hx hby v254 at_282 rfl 284 rfl ?_
      refine own_iconst X hx hby (2 : Int32) at_284 rfl 285 rfl ?_
      refine own_icmp_ne X hx hby at_285 301 288 (by decide) rfl (fun c285 => ?_) (fun c285 => ?_)
      · skip
        refine own_iloadN X hx hby p3 at_301 rfl 302 rfl ?_
        refine own_i2s X hx hby at_302 303 rfl ?_
        refine own_istore X hx hby at_303 rfl (l' := #[.val (.int p1), .val (.int p2), .val (.int p3), .val (.ref b2), .val (.ref b100), .val (.ref b170), .val (.int (13 : Int32)), .val (.int v254), .val (.int v261), .val (.int (p3.toInt16.toInt32)), .unset, .unset]) rfl 305 rfl ?_
        exact J266 _ (by rw [if_neg c266, if_neg c285])
      · skip
        refine own_aload X hx hby (.ref b170) at_288 rfl rfl 290 rfl ?_
        refine own_iload X hx hby (13 : Int32) at_290 rfl 292 rfl ?_
        refine own_iaload X hx hby hZ (4 : Int32) eT A_b170 (by decide) rfl at_292 293 rfl ?_
        refine own_iload X hx hby v261 at_293 rfl 295 rfl ?_
        refine own_iadd X hx hby at_295 296 rfl ?_
        refine own_istore X hx hby at_296 rfl (l' := #[.val (.int p1), .val (.int p2), .val (.int p3), .val (.ref b2), .val (.ref b100), .val (.ref b170), .val (.int (13 : Int32)), .val (.int v254), .val (.int v261), .val (.int ((4 : Int32) + v261)), .unset, .unset]) rfl 298 rfl ?_
        refine own_goto X hx hby at_298 305 (by decide) ?_
        exact J266 _ (by rw [if_neg c266, if_pos c285])
    · skip
      refine own_aload X hx hby (.ref b100) at_269 rfl rfl 271 rfl ?_
      refine own_iload X hx hby (13 : Int32) at_271 rfl 273 rfl ?_
      refine own_iaload X hx hby hZ (0 : Int32) eT A_b100 (by decide) rfl at_273 274 rfl ?_
      refine own_iload X hx hby v261 at_274 rfl 276 rfl ?_
      refine own_iadd X hx hby at_276 277 rfl ?_
      refine own_istore X hx hby at_277 rfl (l' := #[.val (.int p1), .val (.int p2), .val (.int p3), .val (.ref b2), .val (.ref b100), .val (.ref b170), .val (.int (13 : Int32)), .val (.int v254), .val (.int v261), .val (.int ((0 : Int32) + v261)), .unset, .unset]) rfl 279 rfl ?_
      refine own_goto X hx hby at_279 305 (by decide) ?_
      exact J266 _ (by rw [if_pos c266])
set_option maxRecDepth 65536 in
set_option maxHeartbeats 40000000 in
theorem comes_1 {Post : Tables → Env → Array Value → State → Outcome → State → Prop} (hpost : ∀ tb e args s v u, (limb_1_1.after args s (.returned v) u = true ∧ limb_1_2.after args s (.returned v) u = true ∧ True) → FrameEnd s (.returned v) u (Jvm.fieldLocs frame_1_writes args s ++ Jvm.arrayLocs frame_1_arrays args s ++ Jvm.staticLocs frame_1_statics s) 16 192 → Post tb e args s (.returned v) u) :
    ArmFor flags0 classFile x code maxLocals ret World_1 tables_1 room_1 Calls_1 rest_1 Pre_1 Post := by
  intro l hfl _ _ p e ha hc hk s m args below hf hA hF happ hP
  obtain ⟨hcalls, hrest, hpre⟩ := hP
  obtain ⟨-, -, -, hnamed, -, -, -, hat⟩ := (Spec.applies_iff hf).mp happ
  obtain ⟨hg, hn⟩ := and_e (Cond.before_iff.mp (show (Jvm.Cond.and given_1 narrow_1).before args s = true from hpre))
  obtain ⟨gg1, gg2⟩ := and_e hg
  obtain ⟨gg3, gg4⟩ := and_e gg2
  obtain ⟨gg5, gg6⟩ := and_e gg4
  obtain ⟨w0, w1, w2, rfl⟩ : ∃ w0 w1 w2 : Value, args = #[w0, w1, w2] := by
    have hs : args.size = 3 := by simpa [Cond.value, given_1] using gg1
    obtain ⟨L⟩ := args
    match L, hs with
    | [w0, w1, w2], _ => exact ⟨w0, w1, w2, rfl⟩
  have hw := fun d (hd : d ∈ tables_1) => atoms_spec (ws := Jvm.Cond.code x code maxLocals ret :: tables_1) hat d (List.mem_cons_of_mem _ hd)
  have hfit : Fit s := fun {y c} hc i hi => by
    obtain ⟨ha, rfl⟩ := Array.getElem?_eq_some_iff.mp hc
    have q := List.all_eq_true.mp ((Array.all_eq_true_iff_forall_mem.mp hF) _ (Array.getElem_mem ha)) i (List.mem_range.mpr hi)
    simpa [Array.getElem?_eq_getElem hi] using q
  obtain ⟨i0, ei0⟩ := is_v gg3
  obtain rfl : w0 = (.int i0) := Option.some.inj ei0
  obtain ⟨i1, ei1⟩ := is_v gg5
  obtain rfl : w1 = (.int i1) := Option.some.inj ei1
  obtain ⟨i2, ei2⟩ := is_v gg6
  obtain rfl : w2 = (.int i2) := Option.some.inj ei2
  obtain ⟨nn1a, nn1b⟩ := and_e hn
  obtain ⟨nn2a, nn2b⟩ := and_e nn1b
  obtain ⟨nn3a, nn3b⟩ := and_e nn2b
  obtain ⟨nn4a, nn4b⟩ := and_e nn3b
  obtain ⟨nn5a, nn5b⟩ := and_e nn4b
  obtain ⟨nn6a, nn6b⟩ := and_e nn5b
  obtain ⟨nn7a, nn7b⟩ := and_e nn6b
  obtain ⟨nn8a, nn8b⟩ := and_e nn7b
  obtain ⟨nn9a, nn9b⟩ := and_e nn8b
  obtain ⟨nn10a, nn10b⟩ := and_e nn9b
  obtain ⟨nn11a, nn11b⟩ := and_e nn10b
  obtain ⟨nn12a, nn12b⟩ := and_e nn11b
  obtain ⟨nn13a, nn13b⟩ := and_e nn12b
  obtain ⟨nn14a, nn14b⟩ := and_e nn13b
  obtain ⟨nn15a, nn15b⟩ := and_e nn14b
  obtain ⟨nn16a, nn16b⟩ := and_e nn15b
  obtain ⟨nn17a, nn17b⟩ := and_e nn16b
  obtain ⟨nn18a, nn18b⟩ := and_e nn17b
  obtain ⟨nn19a, nn19b⟩ := and_e nn18b
  obtain ⟨nn20a, nn20b⟩ := and_e nn19b
  obtain ⟨nn21a, nn21b⟩ := and_e nn20b
  obtain ⟨nn22a, nn22b⟩ := and_e nn21b
  obtain ⟨nn23a, nn23b⟩ := and_e nn22b
  obtain ⟨nn24a, nn24b⟩ := and_e nn23b
  obtain ⟨nn25a, nn25b⟩ := and_e nn24b
  obtain ⟨nn26a, nn26b⟩ := and_e nn25b
  obtain ⟨nn27a, nn27b⟩ := and_e nn26b
  obtain ⟨nn28a, nn28b⟩ := and_e nn27b
  obtain ⟨nn29a, nn29b⟩ := and_e nn28b
  obtain ⟨nn30a, nn30b⟩ := and_e nn29b
  obtain ⟨nn31a, nn31b⟩ := and_e nn30b
  obtain ⟨nn32a, nn32b⟩ := and_e nn31b
  obtain ⟨nn33a, nn33b⟩ := and_e nn32b
  obtain ⟨nn34a, nn34b⟩ := and_e nn33b
  obtain ⟨nn35a, nn35b⟩ := and_e nn34b
  obtain ⟨nn36a, nn36b⟩ := and_e nn35b
  obtain ⟨nn37a, nn37b⟩ := and_e nn36b
  obtain ⟨nn38a, nn38b⟩ := and_e nn37b
  obtain ⟨nn39a, nn39b⟩ := and_e nn38b
  obtain ⟨nn40a, nn40b⟩ := and_e nn39b
  obtain ⟨nn41a, nn41b⟩ := and_e nn40b
  obtain ⟨u_PRODUCE, ev_PRODUCE⟩ := exa_v nn1a
  have E_u_PRODUCE := Exa.start ev_PRODUCE nn1a
  have S_PRODUCE := Sta.start ev_PRODUCE (Or.inr ⟨(hw _ (List.mem_of_getElem? (i := 3) rfl)), (hw _ (List.mem_of_getElem? (i := 4) rfl))⟩)
  obtain ⟨u_FETCH, ev_FETCH⟩ := exa_v nn2a
  have E_u_FETCH := Exa.start ev_FETCH nn2a
  have S_FETCH := Sta.start ev_FETCH (Or.inr ⟨(hw _ (List.mem_of_getElem? (i := 3) rfl)), (hw _ (List.mem_of_getElem? (i := 7) rfl))⟩)
  obtain ⟨u_LIST_OFFSETS, ev_LIST_OFFSETS⟩ := exa_v nn3a
  have E_u_LIST_OFFSETS := Exa.start ev_LIST_OFFSETS nn3a
  have S_LIST_OFFSETS := Sta.start ev_LIST_OFFSETS (Or.inr ⟨(hw _ (List.mem_of_getElem? (i := 3) rfl)), (hw _ (List.mem_of_getElem? (i := 9) rfl))⟩)
  obtain ⟨u_METADATA, ev_METADATA⟩ := exa_v nn4a
  have E_u_METADATA := Exa.start ev_METADATA nn4a
  have S_METADATA := Sta.start ev_METADATA (Or.inr ⟨(hw _ (List.mem_of_getElem? (i := 3) rfl)), (hw _ (List.mem_of_getElem? (i := 11) rfl))⟩)
  obtain ⟨u_OFFSET_COMMIT, ev_OFFSET_COMMIT⟩ := exa_v nn5a
  have E_u_OFFSET_COMMIT := Exa.start ev_OFFSET_COMMIT nn5a
  have S_OFFSET_COMMIT := Sta.start ev_OFFSET_COMMIT (Or.inr ⟨(hw _ (List.mem_of_getElem? (i := 3) rfl)), (hw _ (List.mem_of_getElem? (i := 13) rfl))⟩)
  obtain ⟨u_OFFSET_FETCH, ev_OFFSET_FETCH⟩ := exa_v nn6a
  have E_u_OFFSET_FETCH := Exa.start ev_OFFSET_FETCH nn6a
  have S_OFFSET_FETCH := Sta.start ev_OFFSET_FETCH (Or.inr ⟨(hw _ (List.mem_of_getElem? (i := 3) rfl)), (hw _ (List.mem_of_getElem? (i := 15) rfl))⟩)
  obtain ⟨u_FIND_COORDINATOR, ev_FIND_COORDINATOR⟩ := exa_v nn7a
  have E_u_FIND_COORDINATOR := Exa.start ev_FIND_COORDINATOR nn7a
  have S_FIND_COORDINATOR := Sta.start ev_FIND_COORDINATOR (Or.inr ⟨(hw _ (List.mem_of_getElem? (i := 3) rfl)), (hw _ (List.mem_of_getElem? (i := 17) rfl))⟩)
  obtain ⟨u_JOIN_GROUP, ev_JOIN_GROUP⟩ := exa_v nn8a
  have E_u_JOIN_GROUP := Exa.start ev_JOIN_GROUP nn8a
  have S_JOIN_GROUP := Sta.start ev_JOIN_GROUP (Or.inr ⟨(hw _ (List.mem_of_getElem? (i := 3) rfl)), (hw _ (List.mem_of_getElem? (i := 19) rfl))⟩)
  obtain ⟨u_HEARTBEAT, ev_HEARTBEAT⟩ := exa_v nn9a
  have E_u_HEARTBEAT := Exa.start ev_HEARTBEAT nn9a
  have S_HEARTBEAT := Sta.start ev_HEARTBEAT (Or.inr ⟨(hw _ (List.mem_of_getElem? (i := 3) rfl)), (hw _ (List.mem_of_getElem? (i := 21) rfl))⟩)
  obtain ⟨u_LEAVE_GROUP, ev_LEAVE_GROUP⟩ := exa_v nn10a
  have E_u_LEAVE_GROUP := Exa.start ev_LEAVE_GROUP nn10a
  have S_LEAVE_GROUP := Sta.start ev_LEAVE_GROUP (Or.inr ⟨(hw _ (List.mem_of_getElem? (i := 3) rfl)), (hw _ (List.mem_of_getElem? (i := 23) rfl))⟩)
  obtain ⟨u_SYNC_GROUP, ev_SYNC_GROUP⟩ := exa_v nn11a
  have E_u_SYNC_GROUP := Exa.start ev_SYNC_GROUP nn11a
  have S_SYNC_GROUP := Sta.start ev_SYNC_GROUP (Or.inr ⟨(hw _ (List.mem_of_getElem? (i := 3) rfl)), (hw _ (List.mem_of_getElem? (i := 25) rfl))⟩)
  obtain ⟨u_DESCRIBE_GROUPS, ev_DESCRIBE_GROUPS⟩ := exa_v nn12a
  have E_u_DESCRIBE_GROUPS := Exa.start ev_DESCRIBE_GROUPS nn12a
  have S_DESCRIBE_GROUPS := Sta.start ev_DESCRIBE_GROUPS (Or.inr ⟨(hw _ (List.mem_of_getElem? (i := 3) rfl)), (hw _ (List.mem_of_getElem? (i := 27) rfl))⟩)
  obtain ⟨u_LIST_GROUPS, ev_LIST_GROUPS⟩ := exa_v nn13a
  have E_u_LIST_GROUPS := Exa.start ev_LIST_GROUPS nn13a
  have S_LIST_GROUPS := Sta.start ev_LIST_GROUPS (Or.inr ⟨(hw _ (List.mem_of_getElem? (i := 3) rfl)), (hw _ (List.mem_of_getElem? (i := 29) rfl))⟩)
  obtain ⟨u_API_VERSIONS, ev_API_VERSIONS⟩ := exa_v nn14a
  have E_u_API_VERSIONS := Exa.start ev_API_VERSIONS nn14a
  have S_API_VERSIONS := Sta.start ev_API_VERSIONS (Or.inr ⟨(hw _ (List.mem_of_getElem? (i := 3) rfl)), (hw _ (List.mem_of_getElem? (i := 31) rfl))⟩)
  have F_minVersion_u_PRODUCE := own_fld_start ev_PRODUCE nn15a
  have F_minVersion_u_FETCH := own_fld_start ev_FETCH nn16a
  have F_minVersion_u_SYNC_GROUP := own_fld_start ev_SYNC_GROUP nn17a
  have F_maxVersion_u_SYNC_GROUP := own_fld_start ev_SYNC_GROUP nn18a
  have F_minVersion_u_OFFSET_FETCH := own_fld_start ev_OFFSET_FETCH nn19a
  have F_maxVersion_u_OFFSET_FETCH := own_fld_start ev_OFFSET_FETCH nn20a
  have F_minVersion_u_HEARTBEAT := own_fld_start ev_HEARTBEAT nn21a
  have F_minVersion_u_LIST_OFFSETS := own_fld_start ev_LIST_OFFSETS nn22a
  have F_maxVersion_u_HEARTBEAT := own_fld_start ev_HEARTBEAT nn23a
  have F_minVersion_u_METADATA := own_fld_start ev_METADATA nn24a
  have F_maxVersion_u_METADATA := own_fld_start ev_METADATA nn25a
  have F_maxVersion_u_PRODUCE := own_fld_start ev_PRODUCE nn26a
  have F_maxVersion_u_LIST_OFFSETS := own_fld_start ev_LIST_OFFSETS nn27a
  have F_maxVersion_u_FETCH := own_fld_start ev_FETCH nn28a
  have F_minVersion_u_DESCRIBE_GROUPS := own_fld_start ev_DESCRIBE_GROUPS nn29a
  have F_maxVersion_u_DESCRIBE_GROUPS := own_fld_start ev_DESCRIBE_GROUPS nn30a
  have F_minVersion_u_LEAVE_GROUP := own_fld_start ev_LEAVE_GROUP nn31a
  have F_maxVersion_u_LEAVE_GROUP := own_fld_start ev_LEAVE_GROUP nn32a
  have F_minVersion_u_API_VERSIONS := own_fld_start ev_API_VERSIONS nn33a
  have F_maxVersion_u_API_VERSIONS := own_fld_start ev_API_VERSIONS nn34a
  have F_minVersion_u_OFFSET_COMMIT := own_fld_start ev_OFFSET_COMMIT nn35a
  have F_maxVersion_u_OFFSET_COMMIT := own_fld_start ev_OFFSET_COMMIT nn36a
  have F_minVersion_u_JOIN_GROUP := own_fld_start ev_JOIN_GROUP nn37a
  have F_maxVersion_u_JOIN_GROUP := own_fld_start ev_JOIN_GROUP nn38a
  have F_minVersion_u_FIND_COORDINATOR := own_fld_start ev_FIND_COORDINATOR nn39a
  have F_maxVersion_u_FIND_COORDINATOR := own_fld_start ev_FIND_COORDINATOR nn40a
  have F_minVersion_u_LIST_GROUPS := own_fld_start ev_LIST_GROUPS nn41a
  have F_maxVersion_u_LIST_GROUPS := own_fld_start ev_LIST_GROUPS nn41b
  obtain ⟨n, o, h1, h2, h3, _, L, rfl, ⟨rfl, N⟩, hq⟩ := rm0 l s _ hw i0 i1 i2 u_PRODUCE u_FETCH u_LIST_OFFSETS u_METADATA u_OFFSET_COMMIT u_OFFSET_FETCH u_FIND_COORDINATOR u_JOIN_GROUP u_HEARTBEAT u_LEAVE_GROUP u_SYNC_GROUP u_DESCRIBE_GROUPS u_LIST_GROUPS u_API_VERSIONS s.heap s.heap.size (Nat.le_refl _) S_PRODUCE S_FETCH S_LIST_OFFSETS S_METADATA S_OFFSET_COMMIT S_OFFSET_FETCH S_FIND_COORDINATOR S_JOIN_GROUP S_HEARTBEAT S_LEAVE_GROUP S_SYNC_GROUP S_DESCRIBE_GROUPS S_LIST_GROUPS S_API_VERSIONS E_u_PRODUCE E_u_FETCH E_u_LIST_OFFSETS E_u_METADATA E_u_OFFSET_COMMIT E_u_OFFSET_FETCH E_u_FIND_COORDINATOR E_u_JOIN_GROUP E_u_HEARTBEAT E_u_LEAVE_GROUP E_u_SYNC_GROUP E_u_DESCRIBE_GROUPS E_u_LIST_GROUPS E_u_API_VERSIONS F_minVersion_u_PRODUCE F_maxVersion_u_PRODUCE F_minVersion_u_FETCH F_maxVersion_u_FETCH F_minVersion_u_LIST_OFFSETS F_maxVersion_u_LIST_OFFSETS F_minVersion_u_METADATA F_maxVersion_u_METADATA F_minVersion_u_OFFSET_COMMIT F_maxVersion_u_OFFSET_COMMIT F_minVersion_u_OFFSET_FETCH F_maxVersion_u_OFFSET_FETCH F_minVersion_u_FIND_COORDINATOR F_maxVersion_u_FIND_COORDINATOR F_minVersion_u_JOIN_GROUP F_maxVersion_u_JOIN_GROUP F_minVersion_u_HEARTBEAT F_maxVersion_u_HEARTBEAT F_minVersion_u_LEAVE_GROUP F_maxVersion_u_LEAVE_GROUP F_minVersion_u_SYNC_GROUP F_maxVersion_u_SYNC_GROUP F_minVersion_u_DESCRIBE_GROUPS F_maxVersion_u_DESCRIBE_GROUPS F_minVersion_u_LIST_GROUPS F_maxVersion_u_LIST_GROUPS F_minVersion_u_API_VERSIONS F_maxVersion_u_API_VERSIONS tables_1 p e ha hc hk s m _ below hf ((Spec.applies_iff_loose hf).mp happ).1 ⟨rfl, State.Warmed39.refl s, rfl⟩ trivial
  refine ⟨n, _, h1, h2, h3, hpost _ _ _ _ _ _ ⟨Cond.after_iff.mpr rfl, Cond.after_iff.mpr (eq_i res_at (Term.int_eval (1)) rfl), trivial⟩ ⟨hq.1, hq.2.1, (hq.2.2.sift fun y hy => Or.inr (N y hy)).mono (by decide) (by decide)⟩⟩
theorem main_1_1 : Claimed_1_1 := comes_1 fun _ _ _ _ _ _ h hF => ⟨h.1, hF⟩
theorem main_1_2 : Claimed_1_2 := comes_1 fun _ _ _ _ _ _ h hF => ⟨h.2.1, hF⟩
end Jvm.Pilot.@@N@@
namespace Jvm.Pilot.@@N@@
open Jvm Jvm.ClassFile Sem Op Lib Jvm.Free Jvm.Stand Jvm.Pilot.@@N@@.Jvm.D
/-! MADE BY PROGRAM (witnessworld.py) out of the Statement's table words and the real class files: 13 classes; the members and pool entries that the words name. The judged class is class 1, her method 1. -/
namespace start1
open Jvm.ClassFile
def u (s : String) : CpInfo := .utf8 (stringToUtf16 s)
/-- a pool by its gaps: so many unusable entries, then the entry; so many at the end -/
def gap : Nat → List CpInfo → List CpInfo
  | 0, r => r
  | n + 1, r => .unusable :: gap n r
def poolList (es : List (Nat × CpInfo)) (last : Nat) : List CpInfo := es.foldr (fun e r => gap e.1 (e.2 :: r)) (gap last [])
def pool (es : List (Nat × CpInfo)) (last : Nat) : Array CpInfo := ⟨poolList es last⟩
def fileOf (pool : Array CpInfo) (this : Nat) (attrs : Array Attribute := #[]) (ms : Array MethodInfo := #[]) (fl : Nat := 33) (sup : Nat := 0) (ifs : Array Nat := #[]) (fds : Array FieldInfo := #[]) : ClassFile where
  minorVersion := 0
  majorVersion := 65
  constantPool := pool
  accessFlags := fl
  thisClass := this
  superClass := sup
  interfaces := ifs
  fields := fds
  methods := ms
  attributes := attrs
def plain (name : String) (sup : Option ClassId) : Class where
  name := name
  kind := .ordinary
  loader := none
  accessFlags := 33
  super := sup
  interfaces := #[]
  cf := none
  fields := #[]
  methods := #[]
  instanceTypes := #[]
  staticTypes := #[]
  resolved := #[]
  callSites := []
  init := .initialized
  statics := none
  mirror := none

def pool0 : Array CpInfo := pool [(5, u "<init>"), (0, u "()V"), (1, .class_ 10), (1, u "java/lang/Object")] 113

def k0m0 : Method := { name := "<init>", desc := "()V", sig := { parameters := [], returnType := none }, accessFlags := 1, code := none }
/-- java/lang/Object -/
def k0 : Class := { plain "java/lang/Object" none with
  accessFlags := 33
  interfaces := #[]
  cf := some (fileOf pool0 8 #[] #[{ accessFlags := 1, nameIndex := 5, descriptorIndex := 6, attributes := #[] }] 33 0 #[] #[])
  fields := #[]
  methods := #[k0m0]
  instanceTypes := #[]
  staticTypes := #[]
  resolved := Array.replicate 124 none
  statics := none }

def pool1 : Array CpInfo := pool [(2, .class_ 4), (1, u "java/lang/Object"), (0, u "<init>"), (0, u "()V"), (0, .class_ 8), (0, u "com/example/enroll/enroll/wire/ApiKey"), (0, .fieldref 7 10), (0, .nameAndType 11 12), (0, u "PRODUCE"), (0, u "Lcom/example/enroll/enroll/wire/ApiKey;"), (0, .fieldref 7 14), (0, .nameAndType 15 12), (0, u "FETCH"), (0, .fieldref 7 17), (0, .nameAndType 18 12), (0, u "LIST_OFFSETS"), (0, .fieldref 7 20), (0, .nameAndType 21 12), (0, u "METADATA"), (0, .fieldref 7 23), (0, .nameAndType 24 12), (0, u "OFFSET_COMMIT"), (0, .fieldref 7 26), (0, .nameAndType 27 12), (0, u "OFFSET_FETCH"), (0, .fieldref 7 29), (0, .nameAndType 30 12), (0, u "FIND_COORDINATOR"), (0, .fieldref 7 32), (0, .nameAndType 33 12), (0, u "JOIN_GROUP"), (0, .fieldref 7 35), (0, .nameAndType 36 12), (0, u "HEARTBEAT"), (0, .fieldref 7 38), (0, .nameAndType 39 12), (0, u "LEAVE_GROUP"), (0, .fieldref 7 41), (0, .nameAndType 42 12), (0, u "SYNC_GROUP"), (0, .fieldref 7 44), (0, .nameAndType 45 12), (0, u "DESCRIBE_GROUPS"), (0, .fieldref 7 47), (0, .nameAndType 48 12), (0, u "LIST_GROUPS"), (0, .fieldref 7 50), (0, .nameAndType 51 12), (0, u "API_VERSIONS"), (0, .integer 2147483647), (0, .methodref 7 54), (0, .nameAndType 55 56), (0, u "supports"), (0, u "(S)Z"), (0, .class_ 58), (0, u "com/example/enroll/enroll/wire/ApiKeySupportsPinLaw"), (2, u "law"), (0, u "(III)Z")] 7

def k1m0 : Method := { name := "<init>", desc := "()V", sig := { parameters := [], returnType := none }, accessFlags := 1, code := none }
def k1c1 : Code := { maxStack := 4, maxLocals := 12, code := code, exceptionTable := #[], attributes := #[] }
def k1m1 : Method := { name := "law", desc := "(III)Z", sig := { parameters := [.int, .int, .int], returnType := some .boolean }, accessFlags := 9, code := some k1c1 }
/-- com/example/enroll/enroll/wire/ApiKeySupportsPinLaw -/
def k1 : Class := { plain "com/example/enroll/enroll/wire/ApiKeySupportsPinLaw" (some 0) with
  accessFlags := 49
  interfaces := #[]
  cf := some (fileOf pool1 57 #[] #[{ accessFlags := 1, nameIndex := 5, descriptorIndex := 6, attributes := #[] }, { accessFlags := 9, nameIndex := 61, descriptorIndex := 62, attributes := #[] }] 49 2 #[] #[])
  fields := #[]
  methods := #[k1m0, k1m1]
  instanceTypes := #[]
  staticTypes := #[]
  resolved := Array.replicate 70 none
  statics := none }

def pool2 : Array CpInfo := pool [(1, .class_ 2), (0, u "java/lang/constant/Constable"), (0, .class_ 4), (0, u "java/lang/Object")] 6

/-- java/lang/constant/Constable -/
def k2 : Class := { plain "java/lang/constant/Constable" (some 0) with
  accessFlags := 1537
  interfaces := #[]
  cf := some (fileOf pool2 1 #[] #[] 1537 3 #[] #[])
  fields := #[]
  methods := #[]
  instanceTypes := #[]
  staticTypes := #[]
  resolved := Array.replicate 11 none
  statics := none }

def pool3 : Array CpInfo := pool [(1, .class_ 2), (0, u "java/lang/Comparable"), (0, .class_ 4), (0, u "java/lang/Object")] 7

/-- java/lang/Comparable -/
def k3 : Class := { plain "java/lang/Comparable" (some 0) with
  accessFlags := 1537
  interfaces := #[]
  cf := some (fileOf pool3 1 #[] #[] 1537 3 #[] #[])
  fields := #[]
  methods := #[]
  instanceTypes := #[]
  staticTypes := #[]
  resolved := Array.replicate 12 none
  statics := none }

def pool4 : Array CpInfo := pool [(1, .class_ 2), (0, u "java/io/Serializable"), (0, .class_ 4), (0, u "java/lang/Object")] 2

/-- java/io/Serializable -/
def k4 : Class := { plain "java/io/Serializable" (some 0) with
  accessFlags := 1537
  interfaces := #[]
  cf := some (fileOf pool4 1 #[] #[] 1537 3 #[] #[])
  fields := #[]
  methods := #[]
  instanceTypes := #[]
  staticTypes := #[]
  resolved := Array.replicate 7 none
  statics := none }

def pool5 : Array CpInfo := pool [(2, .class_ 4), (1, u "java/lang/Enum"), (0, u "name"), (0, u "Ljava/lang/String;"), (2, u "ordinal"), (0, u "I"), (1, .class_ 14), (1, u "java/lang/Object"), (4, u "hash"), (86, .class_ 108), (1, u "java/lang/Enum$EnumDesc"), (2, .class_ 112), (0, u "java/lang/constant/Constable"), (0, .class_ 114), (0, u "java/lang/Comparable"), (0, .class_ 116), (0, u "java/io/Serializable")] 87

/-- java/lang/Enum -/
def k5 : Class := { plain "java/lang/Enum" (some 0) with
  accessFlags := 1057
  interfaces := #[2, 3, 4]
  cf := some (fileOf pool5 2 #[.nestMembers #[106]] #[] 1057 12 #[111, 113, 115] #[{ accessFlags := 18, nameIndex := 5, descriptorIndex := 6, attributes := #[] }, { accessFlags := 18, nameIndex := 9, descriptorIndex := 10, attributes := #[] }, { accessFlags := 2, nameIndex := 19, descriptorIndex := 10, attributes := #[] }])
  fields := #[{ name := "name", type := (.object "java/lang/String"), accessFlags := 18, slot := 0, constantValue := 0 }, { name := "ordinal", type := .int, accessFlags := 18, slot := 1, constantValue := 0 }, { name := "hash", type := .int, accessFlags := 2, slot := 2, constantValue := 0 }]
  methods := #[]
  instanceTypes := #[(.object "java/lang/String"), .int, .int]
  staticTypes := #[]
  resolved := Array.replicate 204 none
  statics := none }

def pool6 : Array CpInfo := pool [(1, .class_ 2), (0, u "com/example/enroll/enroll/wire/ApiKey"), (2, u "PRODUCE"), (0, u "Lcom/example/enroll/enroll/wire/ApiKey;"), (2, u "FETCH"), (2, u "LIST_OFFSETS"), (2, u "METADATA"), (2, u "OFFSET_COMMIT"), (2, u "OFFSET_FETCH"), (2, u "FIND_COORDINATOR"), (2, u "JOIN_GROUP"), (2, u "HEARTBEAT"), (2, u "LEAVE_GROUP"), (2, u "SYNC_GROUP"), (2, u "DESCRIBE_GROUPS"), (2, u "LIST_GROUPS"), (2, u "API_VERSIONS"), (2, u "$VALUES"), (0, u "[Lcom/example/enroll/enroll/wire/ApiKey;"), (6, .class_ 58), (1, u "java/lang/Enum"), (8, u "id"), (0, u "S"), (0, .fieldref 1 70), (0, .nameAndType 71 68), (0, u "minVersion"), (0, .fieldref 1 73), (0, .nameAndType 74 68), (0, u "maxVersion"), (2, u "flexibleFrom"), (7, u "(S)Z"), (30, u "supports")] 6

def k6c0 : Code := { maxStack := 2, maxLocals := 2, code := prog_49_method_8_code, exceptionTable := #[], attributes := #[] }
def k6m0 : Method := { name := "supports", desc := "(S)Z", sig := { parameters := [.short], returnType := some .boolean }, accessFlags := 1, code := some k6c0 }
/-- com/example/enroll/enroll/wire/ApiKey -/
def k6 : Class := { plain "com/example/enroll/enroll/wire/ApiKey" (some 5) with
  accessFlags := 16433
  interfaces := #[]
  cf := some (fileOf pool6 1 #[] #[{ accessFlags := 1, nameIndex := 116, descriptorIndex := 85, attributes := #[] }] 16433 56 #[] #[{ accessFlags := 16409, nameIndex := 5, descriptorIndex := 6, attributes := #[] }, { accessFlags := 16409, nameIndex := 9, descriptorIndex := 6, attributes := #[] }, { accessFlags := 16409, nameIndex := 12, descriptorIndex := 6, attributes := #[] }, { accessFlags := 16409, nameIndex := 15, descriptorIndex := 6, attributes := #[] }, { accessFlags := 16409, nameIndex := 18, descriptorIndex := 6, attributes := #[] }, { accessFlags := 16409, nameIndex := 21, descriptorIndex := 6, attributes := #[] }, { accessFlags := 16409, nameIndex := 24, descriptorIndex := 6, attributes := #[] }, { accessFlags := 16409, nameIndex := 27, descriptorIndex := 6, attributes := #[] }, { accessFlags := 16409, nameIndex := 30, descriptorIndex := 6, attributes := #[] }, { accessFlags := 16409, nameIndex := 33, descriptorIndex := 6, attributes := #[] }, { accessFlags := 16409, nameIndex := 36, descriptorIndex := 6, attributes := #[] }, { accessFlags := 16409, nameIndex := 39, descriptorIndex := 6, attributes := #[] }, { accessFlags := 16409, nameIndex := 42, descriptorIndex := 6, attributes := #[] }, { accessFlags := 16409, nameIndex := 45, descriptorIndex := 6, attributes := #[] }, { accessFlags := 18, nameIndex := 67, descriptorIndex := 68, attributes := #[] }, { accessFlags := 18, nameIndex := 71, descriptorIndex := 68, attributes := #[] }, { accessFlags := 18, nameIndex := 74, descriptorIndex := 68, attributes := #[] }, { accessFlags := 18, nameIndex := 77, descriptorIndex := 68, attributes := #[] }, { accessFlags := 4122, nameIndex := 48, descriptorIndex := 49, attributes := #[] }])
  fields := #[{ name := "PRODUCE", type := (.object "com/example/enroll/enroll/wire/ApiKey"), accessFlags := 16409, slot := 0, constantValue := 0 }, { name := "FETCH", type := (.object "com/example/enroll/enroll/wire/ApiKey"), accessFlags := 16409, slot := 1, constantValue := 0 }, { name := "LIST_OFFSETS", type := (.object "com/example/enroll/enroll/wire/ApiKey"), accessFlags := 16409, slot := 2, constantValue := 0 }, { name := "METADATA", type := (.object "com/example/enroll/enroll/wire/ApiKey"), accessFlags := 16409, slot := 3, constantValue := 0 }, { name := "OFFSET_COMMIT", type := (.object "com/example/enroll/enroll/wire/ApiKey"), accessFlags := 16409, slot := 4, constantValue := 0 }, { name := "OFFSET_FETCH", type := (.object "com/example/enroll/enroll/wire/ApiKey"), accessFlags := 16409, slot := 5, constantValue := 0 }, { name := "FIND_COORDINATOR", type := (.object "com/example/enroll/enroll/wire/ApiKey"), accessFlags := 16409, slot := 6, constantValue := 0 }, { name := "JOIN_GROUP", type := (.object "com/example/enroll/enroll/wire/ApiKey"), accessFlags := 16409, slot := 7, constantValue := 0 }, { name := "HEARTBEAT", type := (.object "com/example/enroll/enroll/wire/ApiKey"), accessFlags := 16409, slot := 8, constantValue := 0 }, { name := "LEAVE_GROUP", type := (.object "com/example/enroll/enroll/wire/ApiKey"), accessFlags := 16409, slot := 9, constantValue := 0 }, { name := "SYNC_GROUP", type := (.object "com/example/enroll/enroll/wire/ApiKey"), accessFlags := 16409, slot := 10, constantValue := 0 }, { name := "DESCRIBE_GROUPS", type := (.object "com/example/enroll/enroll/wire/ApiKey"), accessFlags := 16409, slot := 11, constantValue := 0 }, { name := "LIST_GROUPS", type := (.object "com/example/enroll/enroll/wire/ApiKey"), accessFlags := 16409, slot := 12, constantValue := 0 }, { name := "API_VERSIONS", type := (.object "com/example/enroll/enroll/wire/ApiKey"), accessFlags := 16409, slot := 13, constantValue := 0 }, { name := "id", type := .short, accessFlags := 18, slot := 3, constantValue := 0 }, { name := "minVersion", type := .short, accessFlags := 18, slot := 4, constantValue := 0 }, { name := "maxVersion", type := .short, accessFlags := 18, slot := 5, constantValue := 0 }, { name := "flexibleFrom", type := .short, accessFlags := 18, slot := 6, constantValue := 0 }, { name := "$VALUES", type := (.array (.object "com/example/enroll/enroll/wire/ApiKey")), accessFlags := 4122, slot := 14, constantValue := 0 }]
  methods := #[k6m0]
  instanceTypes := #[(.object "java/lang/String"), .int, .int, .short, .short, .short, .short]
  staticTypes := #[(.object "com/example/enroll/enroll/wire/ApiKey"), (.object "com/example/enroll/enroll/wire/ApiKey"), (.object "com/example/enroll/enroll/wire/ApiKey"), (.object "com/example/enroll/enroll/wire/ApiKey"), (.object "com/example/enroll/enroll/wire/ApiKey"), (.object "com/example/enroll/enroll/wire/ApiKey"), (.object "com/example/enroll/enroll/wire/ApiKey"), (.object "com/example/enroll/enroll/wire/ApiKey"), (.object "com/example/enroll/enroll/wire/ApiKey"), (.object "com/example/enroll/enroll/wire/ApiKey"), (.object "com/example/enroll/enroll/wire/ApiKey"), (.object "com/example/enroll/enroll/wire/ApiKey"), (.object "com/example/enroll/enroll/wire/ApiKey"), (.object "com/example/enroll/enroll/wire/ApiKey"), (.array (.object "com/example/enroll/enroll/wire/ApiKey"))]
  resolved := Array.replicate 123 none
  statics := some 0 }

def pool7 : Array CpInfo := pool [(1, u "java/lang/Cloneable"), (0, .class_ 1), (0, u "java/lang/Object"), (0, .class_ 3)] 3

/-- java/lang/Cloneable -/
def k7 : Class := { plain "java/lang/Cloneable" (some 0) with
  accessFlags := 1537
  interfaces := #[]
  cf := some (fileOf pool7 2 #[] #[] 1537 4 #[] #[])
  fields := #[]
  methods := #[]
  instanceTypes := #[]
  staticTypes := #[]
  resolved := Array.replicate 8 none
  statics := none }

/-- the primitive byte -/
def k8 : Class := { plain "byte" none with kind := .primitive 'B', accessFlags := 0x411 }
/-- [B -/
def k9 : Class := { plain "[B" (some 0) with kind := .array 8 .byte, interfaces := #[7, 4], accessFlags := 1041 }

/-- the primitive int -/
def k10 : Class := { plain "int" none with kind := .primitive 'I', accessFlags := 0x411 }
/-- [I -/
def k11 : Class := { plain "[I" (some 0) with kind := .array 10 .int, interfaces := #[7, 4], accessFlags := 1041 }

/-- [Lcom/example/enroll/enroll/wire/ApiKey; -/
def k12 : Class := { plain "[Lcom/example/enroll/enroll/wire/ApiKey;" (some 0) with kind := .array 6 (.object "com/example/enroll/enroll/wire/ApiKey"), interfaces := #[7, 4], accessFlags := 1041 }

def heap : Heap := #[{ cls := 6, slots := #[.ref 1, .ref 2, .ref 3, .ref 4, .ref 5, .ref 6, .ref 7, .ref 8, .ref 9, .ref 10, .ref 11, .ref 12, .ref 13, .ref 14, .null], vm := .statics 6 },
  { cls := 6, slots := #[.null, .int 0, .int 0, .int 0, .int 3, .int 7, .int 0], vm := .none },
  { cls := 6, slots := #[.null, .int 0, .int 0, .int 0, .int 4, .int 11, .int 0], vm := .none },
  { cls := 6, slots := #[.null, .int 0, .int 0, .int 0, .int 1, .int 2, .int 0], vm := .none },
  { cls := 6, slots := #[.null, .int 0, .int 0, .int 0, .int 0, .int 4, .int 0], vm := .none },
  { cls := 6, slots := #[.null, .int 0, .int 0, .int 0, .int 2, .int 7, .int 0], vm := .none },
  { cls := 6, slots := #[.null, .int 0, .int 0, .int 0, .int 1, .int 7, .int 0], vm := .none },
  { cls := 6, slots := #[.null, .int 0, .int 0, .int 0, .int 0, .int 2, .int 0], vm := .none },
  { cls := 6, slots := #[.null, .int 0, .int 0, .int 0, .int 0, .int 5, .int 0], vm := .none },
  { cls := 6, slots := #[.null, .int 0, .int 0, .int 0, .int 0, .int 3, .int 0], vm := .none },
  { cls := 6, slots := #[.null, .int 0, .int 0, .int 0, .int 0, .int 3, .int 0], vm := .none },
  { cls := 6, slots := #[.null, .int 0, .int 0, .int 0, .int 0, .int 3, .int 0], vm := .none },
  { cls := 6, slots := #[.null, .int 0, .int 0, .int 0, .int 0, .int 4, .int 0], vm := .none },
  { cls := 6, slots := #[.null, .int 0, .int 0, .int 0, .int 0, .int 2, .int 0], vm := .none },
  { cls := 6, slots := #[.null, .int 0, .int 0, .int 0, .int 0, .int 4, .int 0], vm := .none }]
def classes : Array Class := #[k0, k1, k2, k3, k4, k5, k6, k7, k8, k9, k10, k11, k12]
def interned : List (Array UInt16 × Addr) := []
def slotsUsed : Nat := 113
def theMethod : MethodId := ⟨1, 1⟩
def args0 : Array Value := #[.int 3, .int 4, .int 5]
def aboutOver (below : List Frame) : State where
  vm := { classes := classes, interned := interned.toArray }
  heap := heap
  slotsUsed := slotsUsed
  threads := #[{ frames := .invoking theMethod args0 :: below }]
def below0 : List Frame := [.native { method := ⟨0, 0⟩, args := #[] }]
def about1 : State := aboutOver below0
def p0 : Program := .bare "" "" ""
def e0 : Env := launch0.env 0 0 0
theorem w_frames : about1.frames = Frame.invoking theMethod args0 :: below0 := rfl
set_option maxRecDepth 65536 in
theorem w_args : argsFit about1.vm theMethod args0 = true := by decide +kernel
set_option maxRecDepth 65536 in
theorem w_heap : heapFits about1 = true := by decide +kernel
set_option maxRecDepth 65536 in
theorem w_runnable : about1.curStatus? = some .runnable := by decide +kernel
set_option maxRecDepth 65536 in
theorem w_alone : about1.alone = true := by decide +kernel
set_option maxRecDepth 65536 in
theorem w_named : about1.methodNamed? x = some theMethod := by decide +kernel
set_option maxRecDepth 65536 in
theorem w_hears : about1.hears theMethod below0 = true := by decide +kernel
set_option maxRecDepth 65536 in
theorem w_ripe : about1.ripe theMethod args0 below0 = true := by decide +kernel
theorem w_running : about1.status = .running := rfl
set_option maxRecDepth 65536 in
theorem w_room : about1.hasRoom e0.platform room_1 = true :=
  launch0.hasRoom_least _ room_1 (by decide +kernel) (by decide +kernel) (by decide +kernel) (by decide +kernel) (by decide +kernel) (by decide +kernel)
theorem allAtoms_all (ts : List Jvm.Cond) (a : Array Jvm.Value) (st : Jvm.State) : (allAtoms ts).before a st = ts.all (fun c => c.before a st) := by
  induction ts with
  | nil => rfl
  | cons c t ih =>
    show (Jvm.Cond.and c (allAtoms t)).before a st = _
    rw [Jvm.Cond.before_and, ih, List.all_cons]
def words1 : List Jvm.Cond := Jvm.Cond.code x code maxLocals ret :: tables_1
/-- a 'code' word, met by the world's own term for the bytes: nothing is compared byte by byte -/
theorem code_word {y : MethodName} {bytes : ByteArray} {mx : Nat} {rt : Option FieldType} {a : Array Value} {s : State} {m : MethodId} {meth : Method} {c : Code} (h1 : s.methodNamed? y = some m) (h2 : s.vm.method? m = some meth) (h3 : meth.code = some c) (h4 : c.code = bytes)
    (h5 : (c.maxLocals == mx && c.exceptionTable.isEmpty && decide (c.maxStack ≤ mostOperands) && decide (meth.sig.returnType = rt) && !meth.locks && decide (parseMethodDescriptor y.desc = some meth.sig)) = true) : (Jvm.Cond.code y bytes mx rt).before a s = true := by
  simp only [Bool.and_eq_true, beq_iff_eq, Bool.not_eq_true', decide_eq_true_eq] at h5
  obtain ⟨⟨⟨⟨⟨g1, g2⟩, g3⟩, g4⟩, g5⟩, g6⟩ := h5
  simp [Cond.before, Cond.holds, Cond.value, h1, h2, h3, h4, g1, g2, g3, g4, g5, g6]
def isCode : Jvm.Cond → Bool
  | .code _ _ _ _ => true
  | _ => false
theorem all_split {L : List Jvm.Cond} {P : Jvm.Cond → Bool} (h1 : L.all (fun c => isCode c || P c) = true) (h2 : ∀ c ∈ L.filter isCode, P c = true) : L.all P = true := by
  refine List.all_eq_true.mpr fun c hc => ?_
  have h := List.all_eq_true.mp h1 c hc
  rcases Bool.eq_false_or_eq_true (isCode c) with hi | hi
  · exact h2 c (List.mem_filter.mpr ⟨hc, hi⟩)
  · simpa [hi] using h
set_option maxRecDepth 65536 in
theorem w_c0 : (Jvm.Cond.code x code maxLocals ret).before args0 about1 = true := code_word (m := ⟨1, 1⟩) (meth := k1m1) (c := k1c1) (by decide +kernel) rfl rfl rfl (by decide +kernel)
set_option maxRecDepth 65536 in
theorem w_c1 : (Jvm.Cond.code ({ cls := "com/example/enroll/enroll/wire/ApiKey", name := "supports", desc := "(S)Z" } : Jvm.MethodName) prog_49_method_8_code (2 : Nat) (Option.some Jvm.ClassFile.FieldType.boolean)).before args0 about1 = true := code_word (m := ⟨6, 0⟩) (meth := k6m0) (c := k6c0) (by decide +kernel) rfl rfl rfl (by decide +kernel)
def codes1 : List Jvm.Cond := [Jvm.Cond.code x code maxLocals ret, Jvm.Cond.code ({ cls := "com/example/enroll/enroll/wire/ApiKey", name := "supports", desc := "(S)Z" } : Jvm.MethodName) prog_49_method_8_code (2 : Nat) (Option.some Jvm.ClassFile.FieldType.boolean)]
set_option maxRecDepth 65536 in
theorem codes_eq : words1.filter isCode = codes1 := rfl
theorem w_codes : ∀ c ∈ words1.filter isCode, c.before args0 about1 = true := by
  rw [codes_eq]
  intro c hc
  simp only [codes1, List.mem_cons, List.not_mem_nil, or_false] at hc
  rcases hc with rfl | rfl
  · exact w_c0
  · exact w_c1
set_option maxRecDepth 65536 in
theorem w_t1 : (words1.take 24).all (fun c => isCode c || c.before args0 about1) = true := by decide +kernel
set_option maxRecDepth 65536 in
theorem w_t2 : (words1.drop 24).all (fun c => isCode c || c.before args0 about1) = true := by decide +kernel
theorem w_tables : (allAtoms (Jvm.Cond.code x code maxLocals ret :: tables_1)).before args0 about1 = true := by
  rw [allAtoms_all]
  show words1.all (fun c => c.before args0 about1) = true
  refine all_split ?_ w_codes
  rw [← List.take_append_drop 24 words1, List.all_append, w_t1, w_t2]
  rfl
set_option maxRecDepth 65536 in
theorem w_case : (Jvm.Cond.and given_1 narrow_1).before args0 about1 = true := by decide +kernel
theorem w_applies : (headSpec (Jvm.Cond.code x code maxLocals ret :: tables_1) room_1).applies x e0.platform about1 = true :=
  (Spec.applies_iff w_frames).mpr ⟨w_running, w_runnable, w_alone, w_named, w_hears, w_ripe, w_room, w_tables⟩
theorem atStart : AtStart classFile x code maxLocals ret World_1 tables_1 room_1 Calls_1 rest_1 Pre_1 launch0 p0 e0 about1 theMethod args0 below0 :=
  ⟨lists_1, trivial, launch0.admits_env _ _ _, launch0.least_env, fairChoices_fair.cas, fairChoices_fair.clock, w_frames, w_args, w_heap, w_applies, trivial, trivial, w_case⟩
end start1
theorem witness_1 : WitnessClaimed_1 := ⟨start1.p0, start1.e0, start1.about1, start1.theMethod, start1.args0, start1.below0, start1.atStart⟩
end Jvm.Pilot.@@N@@

import JvmDerived
import JvmDerived.Pilot.@@N@@Statement
import JvmDerived.Pilot.@@N@@Code
set_option linter.unusedVariables false
set_option linter.unusedSimpArgs false
namespace Jvm.Pilot.@@N@@
open Jvm Jvm.ClassFile Sem Op Lib Jvm.Free Jvm.Stand Jvm.LawKit Jvm.RoadKit Bundle Jvm.Pilot.@@N@@.Jvm.D
/-! ## the run in continuation form: 'Go G T g': from T with the top frame g the run ends as G says -/
def Go (p : Program) (e : Env) (below : List Frame) (G : State → Outcome → Prop) (T : State) (g : JFrame) : Prop :=
  ∃ s₂ o, Steps p.tables e below (T.setTop g) s₂ ∧ s₂.status = .running ∧ Ended s₂ below o ∧ G s₂ o
/-- what a contract asks of the end -/
def FinQ (s : State) (Q : Option Value → Heap → List Loc → Prop) (kc ks : Nat) (U' : State) (o : Outcome) : Prop :=
  ∃ v L, o = .returned v ∧ Q v U'.heap L ∧ FrameEnd s o U' L kc ks
/-- a body's contract, as backOf takes it -/
def Met1 (l : Launch) (Z : State) (y : MethodName) (bytes : ByteArray) (maxL : Nat) (rt : Option FieldType) (rm : Room) (as : Array Value) (h0 : Heap) (Q : Option Value → Heap → List Loc → Prop) : Prop :=
  ∀ ws : List Jvm.Cond, MetFree l y (head1 (Jvm.Cond.code y bytes maxL rt :: ws) rm) (fun a U => a = as ∧ Z.Warmed39 U.vm ∧ U.heap = h0) (fun _ _ _ _ _ => True)
    (fun _ U o U' => ∃ v L, o = .returned v ∧ Q v U'.heap L ∧ FrameEnd U o U' L rm.cells rm.slots)
section OwnGo
variable {p : Program} {l : Launch} {e : Env} {R : Room} {s : State} {m : MethodId} {args : Array Value} {below : List Frame} {meth : Method} {c : Code} {T T' : State} {locs : List Loc} {cells slots : Nat} {G : State → Outcome → Prop} {Ls : Array Slot} {st : List Value} {pc : Nat} {bs : ByteArray} {Z : State} {a0 : Array Value} {h : Heap} {g g' : JFrame}
theorem Go.by (q : ∀ t, Steps p.tables e below (T'.setTop g') t → Steps p.tables e below (T.setTop g) t) (k : Go p e below G T' g') : Go p e below G T g := by
  obtain ⟨s₂, o, h1, h2⟩ := k
  exact ⟨s₂, o, q _ h1, h2⟩
theorem own_met_of {Z : State} {y : MethodName} {bytes : ByteArray} {maxL : Nat} {rt : Option FieldType} {rm : Room} {as : Array Value} {h0 : Heap} {Q : Option Value → Heap → List Loc → Prop} {Ls0 : Array Slot} (hpl : plainFor y = true) (ef : ∀ m, entryFrame m as maxL = mkF m 0 Ls0 [])
    (body : ∀ (p : Program) (e : Env) (s : State) (m : MethodId) (below : List Frame) (meth : Method) (c : Code) (s₁ : State), Stand p l e rm s m as below meth c s₁ [] 0 0 → p.tables.exec = Jvm.exec → c.code = bytes → c.maxLocals = maxL → Z.Warmed39 s.vm → s.vm.findClass y.cls = some m.cls → meth.name = y.name → meth.sig.returnType = rt → meth.locks = false → s₁.heap = h0 →
      Go p e below (FinQ s Q rm.cells rm.slots) s₁ (mkF m 0 Ls0 [])) : Met1 l Z y bytes maxL rt rm as h0 Q := by
  intro ws
  refine MetFree.of_bodySF hpl hisR ?_
  intro p e s m args below meth c s₁ Bd hml0 hP hK
  obtain ⟨rfl, hZ, hh⟩ := hP
  have k := body p e s m below meth c s₁ (Stand.of_body Bd) Bd.exec Bd.bytes hml0 hZ (findClass_of_methodNamed Bd.named) (name_of_methodNamed Bd.named Bd.method).1 Bd.returns Bd.notSynchronized (by rw [← hh, Bd.state]; rfl)
  rw [← ef m] at k
  exact k
theorem own_leave {Q : Option Value → Heap → List Loc → Prop} {kc ks : Nat} {v : Option Value} (X : Stand p l e R s m args below meth c T locs cells slots) (hv : meth.sig.returnType = none → v = none) (hlk : meth.locks = false) (hc : cells ≤ kc) (hs : slots ≤ ks) (hQ : Q v T.heap locs)
    (k : ∀ fs, (∀ (f : JFrame) (acts : List Action), f.method = m → f.locked = none → f.entered = [] → (doReturn e (T.setTop f) acts v).1 = T.setFrames fs) → Steps p.tables e below (T.setTop g) (T.setFrames fs)) : Go p e below (FinQ s Q kc ks) T g := by
  obtain ⟨fs, hr, hrun, hended, hW, hsame⟩ := X.leave (v := v) hv hlk
  exact ⟨_, _, k fs hr, hrun, hended, _, _, rfl, hQ, ⟨_, rfl⟩, hW, hsame.mono hc hs⟩
theorem own_retI {Q : Option Value → Heap → List Loc → Prop} {kc ks : Nat} {z : Int32} (X : Stand p l e R s m args below meth c T locs cells slots) (hx : p.tables.exec = Jvm.exec) (hby : c.code = bs) (hret : meth.sig.returnType = some .int) (hlk : meth.locks = false) (hd : decode bs pc = .ok (.ireturn, 1)) (hc : cells ≤ kc) (hs : slots ≤ ks) (hQ : Q (some (.int z)) T.heap locs) : Go p e below (FinQ s Q kc ks) T (mkF m pc Ls (.int z :: st)) := by
  refine own_leave X (fun q => by rw [hret] at q; cases q) hlk hc hs hQ fun fs hr => ?_
  exact retOut X hx hret rfl (Or.inl ⟨rfl, Or.inl rfl, z, rfl⟩) (hb hby hd) hr
theorem own_retN {Q : Option Value → Heap → List Loc → Prop} {kc ks : Nat} {z z' : Int32} {t : FieldType} (X : Stand p l e R s m args below meth c T locs cells slots) (hx : p.tables.exec = Jvm.exec) (hby : c.code = bs) (hret : meth.sig.returnType = some t) (hlk : meth.locks = false) (ht : t = .boolean ∨ t = .byte ∨ t = .char ∨ t = .short) (hd : decode bs pc = .ok (.ireturn, 1)) (hc : cells ≤ kc) (hs : slots ≤ ks) (hn : nar t z = z') (hQ : Q (some (.int z')) T.heap locs) : Go p e below (FinQ s Q kc ks) T (mkF m pc Ls (.int z :: st)) := by
  subst hn
  refine own_leave X (fun q => by rw [hret] at q; cases q) hlk hc hs hQ fun fs hr => ?_
  exact retN X hx hret ht (hb hby hd) hr
theorem own_retJ {Q : Option Value → Heap → List Loc → Prop} {kc ks : Nat} {z : Int64} (X : Stand p l e R s m args below meth c T locs cells slots) (hx : p.tables.exec = Jvm.exec) (hby : c.code = bs) (hret : meth.sig.returnType = some .long) (hlk : meth.locks = false) (hd : decode bs pc = .ok (.lreturn, 1)) (hc : cells ≤ kc) (hs : slots ≤ ks) (hQ : Q (some (.long z)) T.heap locs) : Go p e below (FinQ s Q kc ks) T (mkF m pc Ls (.long z :: st)) := by
  refine own_leave X (fun q => by rw [hret] at q; cases q) hlk hc hs hQ fun fs hr => ?_
  exact retOut X hx hret rfl (Or.inr (Or.inl ⟨rfl, rfl, z, rfl⟩)) (hb hby hd) hr
theorem own_retA {Q : Option Value → Heap → List Loc → Prop} {kc ks : Nat} {w : Value} {t : FieldType} (X : Stand p l e R s m args below meth c T locs cells slots) (hx : p.tables.exec = Jvm.exec) (hby : c.code = bs) (hret : meth.sig.returnType = some t) (hlk : meth.locks = false) (ht : t.isReference = true) (hw : w.isRef = true) (hn : narrow t w = w) (hd : decode bs pc = .ok (.areturn, 1)) (hc : cells ≤ kc) (hs : slots ≤ ks) (hQ : Q (some w) T.heap locs) : Go p e below (FinQ s Q kc ks) T (mkF m pc Ls (w :: st)) := by
  refine own_leave X (fun q => by rw [hret] at q; cases q) hlk hc hs hQ fun fs hr => ?_
  exact retOut X hx hret hn (Or.inr (Or.inr (Or.inr (Or.inr ⟨rfl, ht, hw⟩)))) (hb hby hd) hr
theorem own_ret {Q : Option Value → Heap → List Loc → Prop} {kc ks : Nat} (X : Stand p l e R s m args below meth c T locs cells slots) (hx : p.tables.exec = Jvm.exec) (hby : c.code = bs) (hret : meth.sig.returnType = none) (hlk : meth.locks = false) (hd : decode bs pc = .ok (.return_, 1)) (hc : cells ≤ kc) (hs : slots ≤ ks) (hQ : Q none T.heap locs) : Go p e below (FinQ s Q kc ks) T (mkF m pc Ls []) := by
  refine own_leave X (fun _ => rfl) hlk hc hs hQ fun fs hr => ?_
  exact X.returnOut hx hret (hb hby hd) hr
theorem own_iload (X : Stand p l e R s m args below meth c T locs cells slots) (hx : p.tables.exec = Jvm.exec) (hby : c.code = bs) {n : Nat} (v : Int32) (hd : decode bs pc = .ok (.iload n, 2)) (hl : Ls[n]? = some (.val (.int v))) (pc' : Nat) (hp : pc + 2 = pc') (k : Go p e below G T (mkF m pc' Ls (.int v :: st))) : Go p e below G T (mkF m pc Ls st) := by
  subst hp
  exact Go.by (fun t q => XS.iload X.here hx rfl (hb hby hd) hl q) k
theorem own_iloadN (X : Stand p l e R s m args below meth c T locs cells slots) (hx : p.tables.exec = Jvm.exec) (hby : c.code = bs) {n : Fin 4} (v : Int32) (hd : decode bs pc = .ok (.iload_n n, 1)) (hl : Ls[n.val]? = some (.val (.int v))) (pc' : Nat) (hp : pc + 1 = pc') (k : Go p e below G T (mkF m pc' Ls (.int v :: st))) : Go p e below G T (mkF m pc Ls st) := by
  subst hp
  exact Go.by (fun t q => XS.iloadN X.here hx rfl (hb hby hd) hl q) k
theorem own_istore (X : Stand p l e R s m args below meth c T locs cells slots) (hx : p.tables.exec = Jvm.exec) (hby : c.code = bs) {n : Nat} {x x' : Int32} (hd : decode bs pc = .ok (.istore n, 2)) (ex : x = x') {l' : Array Slot} (hl : storeLocals Ls n (.int x') = some l') (pc' : Nat) (hp : pc + 2 = pc') (k : Go p e below G T (mkF m pc' l' st)) : Go p e below G T (mkF m pc Ls (.int x :: st)) := by
  subst hp
  subst ex
  exact Go.by (fun t q => XS.istore X.here hx rfl (hb hby hd) rfl hl q) k
theorem own_istoreN (X : Stand p l e R s m args below meth c T locs cells slots) (hx : p.tables.exec = Jvm.exec) (hby : c.code = bs) {n : Fin 4} {x x' : Int32} (hd : decode bs pc = .ok (.istore_n n, 1)) (ex : x = x') {l' : Array Slot} (hl : storeLocals Ls n.val (.int x') = some l') (pc' : Nat) (hp : pc + 1 = pc') (k : Go p e below G T (mkF m pc' l' st)) : Go p e below G T (mkF m pc Ls (.int x :: st)) := by
  subst hp
  subst ex
  exact Go.by (fun t q => XS.istoreN X.here hx rfl (hb hby hd) rfl hl q) k
theorem own_lload (X : Stand p l e R s m args below meth c T locs cells slots) (hx : p.tables.exec = Jvm.exec) (hby : c.code = bs) {n : Nat} (v : Int64) (hd : decode bs pc = .ok (.lload n, 2)) (hl : Ls[n]? = some (.val (.long v))) (pc' : Nat) (hp : pc + 2 = pc') (k : Go p e below G T (mkF m pc' Ls (.long v :: st))) : Go p e below G T (mkF m pc Ls st) := by
  subst hp
  exact Go.by (fun t q => XS.lload X.here hx rfl (hb hby hd) hl q) k
theorem own_lloadN (X : Stand p l e R s m args below meth c T locs cells slots) (hx : p.tables.exec = Jvm.exec) (hby : c.code = bs) {n : Fin 4} (v : Int64) (hd : decode bs pc = .ok (.lload_n n, 1)) (hl : Ls[n.val]? = some (.val (.long v))) (pc' : Nat) (hp : pc + 1 = pc') (k : Go p e below G T (mkF m pc' Ls (.long v :: st))) : Go p e below G T (mkF m pc Ls st) := by
  subst hp
  exact Go.by (fun t q => XS.lloadN X.here hx rfl (hb hby hd) hl q) k
theorem own_lstore (X : Stand p l e R s m args below meth c T locs cells slots) (hx : p.tables.exec = Jvm.exec) (hby : c.code = bs) {n : Nat} {x x' : Int64} (hd : decode bs pc = .ok (.lstore n, 2)) (ex : x = x') {l' : Array Slot} (hl : storeLocals Ls n (.long x') = some l') (pc' : Nat) (hp : pc + 2 = pc') (k : Go p e below G T (mkF m pc' l' st)) : Go p e below G T (mkF m pc Ls (.long x :: st)) := by
  subst hp
  subst ex
  exact Go.by (fun t q => XS.lstore X.here hx rfl (hb hby hd) rfl hl q) k
theorem own_lstoreN (X : Stand p l e R s m args below meth c T locs cells slots) (hx : p.tables.exec = Jvm.exec) (hby : c.code = bs) {n : Fin 4} {x x' : Int64} (hd : decode bs pc = .ok (.lstore_n n, 1)) (ex : x = x') {l' : Array Slot} (hl : storeLocals Ls n.val (.long x') = some l') (pc' : Nat) (hp : pc + 1 = pc') (k : Go p e below G T (mkF m pc' l' st)) : Go p e below G T (mkF m pc Ls (.long x :: st)) := by
  subst hp
  subst ex
  exact Go.by (fun t q => XS.lstoreN X.here hx rfl (hb hby hd) rfl hl q) k
theorem own_aload (X : Stand p l e R s m args below meth c T locs cells slots) (hx : p.tables.exec = Jvm.exec) (hby : c.code = bs) {n : Nat} (v : Value) (hd : decode bs pc = .ok (.aload n, 2)) (hl : Ls[n]? = some (.val v)) (hv : v.isRef = true) (pc' : Nat) (hp : pc + 2 = pc') (k : Go p e below G T (mkF m pc' Ls (v :: st))) : Go p e below G T (mkF m pc Ls st) := by
  subst hp
  exact Go.by (fun t q => XS.aload X.here hx rfl (hb hby hd) hl hv q) k
theorem own_aloadN (X : Stand p l e R s m args below meth c T locs cells slots) (hx : p.tables.exec = Jvm.exec) (hby : c.code = bs) {n : Fin 4} (v : Value) (hd : decode bs pc = .ok (.aload_n n, 1)) (hl : Ls[n.val]? = some (.val v)) (hv : v.isRef = true) (pc' : Nat) (hp : pc + 1 = pc') (k : Go p e below G T (mkF m pc' Ls (v :: st))) : Go p e below G T (mkF m pc Ls st) := by
  subst hp
  exact Go.by (fun t q => XS.aloadN X.here hx rfl (hb hby hd) hl hv q) k
theorem own_astore (X : Stand p l e R s m args below meth c T locs cells slots) (hx : p.tables.exec = Jvm.exec) (hby : c.code = bs) {n : Nat} {x : Value} (hd : decode bs pc = .ok (.astore n, 2)) (hv : x.isRef = true) {l' : Array Slot} (hl : storeLocals Ls n x = some l') (pc' : Nat) (hp : pc + 2 = pc') (k : Go p e below G T (mkF m pc' l' st)) : Go p e below G T (mkF m pc Ls (x :: st)) := by
  subst hp
  exact Go.by (fun t q => XS.astore X.here hx rfl (hb hby hd) rfl hv hl q) k
theorem own_astoreN (X : Stand p l e R s m args below meth c T locs cells slots) (hx : p.tables.exec = Jvm.exec) (hby : c.code = bs) {n : Fin 4} {x : Value} (hd : decode bs pc = .ok (.astore_n n, 1)) (hv : x.isRef = true) {l' : Array Slot} (hl : storeLocals Ls n.val x = some l') (pc' : Nat) (hp : pc + 1 = pc') (k : Go p e below G T (mkF m pc' l' st)) : Go p e below G T (mkF m pc Ls (x :: st)) := by
  subst hp
  exact Go.by (fun t q => XS.astoreN X.here hx rfl (hb hby hd) rfl hv hl q) k
theorem own_iconst (X : Stand p l e R s m args below meth c T locs cells slots) (hx : p.tables.exec = Jvm.exec) (hby : c.code = bs) {i : Int} (v : Int32) (hd : decode bs pc = .ok (.iconst i, 1)) (hv : Int32.ofInt i = v) (pc' : Nat) (hp : pc + 1 = pc') (k : Go p e below G T (mkF m pc' Ls (.int v :: st))) : Go p e below G T (mkF m pc Ls st) := by
  subst hp
  subst hv
  exact Go.by (fun t q => XS.iconst X.here hx rfl (hb hby hd) q) k
theorem own_bipush (X : Stand p l e R s m args below meth c T locs cells slots) (hx : p.tables.exec = Jvm.exec) (hby : c.code = bs) {i : Int} (v : Int32) (hd : decode bs pc = .ok (.bipush i, 2)) (hv : (Int8.ofInt i).toInt32 = v) (pc' : Nat) (hp : pc + 2 = pc') (k : Go p e below G T (mkF m pc' Ls (.int v :: st))) : Go p e below G T (mkF m pc Ls st) := by
  subst hp
  subst hv
  exact Go.by (fun t q => XS.bipush X.here hx rfl (hb hby hd) q) k
theorem own_sipush (X : Stand p l e R s m args below meth c T locs cells slots) (hx : p.tables.exec = Jvm.exec) (hby : c.code = bs) {i : Int} (v : Int32) (hd : decode bs pc = .ok (.sipush i, 3)) (hv : (Int16.ofInt i).toInt32 = v) (pc' : Nat) (hp : pc + 3 = pc') (k : Go p e below G T (mkF m pc' Ls (.int v :: st))) : Go p e below G T (mkF m pc Ls st) := by
  subst hp
  subst hv
  exact Go.by (fun t q => XS.sipush X.here hx rfl (hb hby hd) q) k
theorem own_lconst (X : Stand p l e R s m args below meth c T locs cells slots) (hx : p.tables.exec = Jvm.exec) (hby : c.code = bs) {i : Fin 2} (v : Int64) (hd : decode bs pc = .ok (.lconst i, 1)) (hv : Int64.ofNat i = v) (pc' : Nat) (hp : pc + 1 = pc') (k : Go p e below G T (mkF m pc' Ls (.long v :: st))) : Go p e below G T (mkF m pc Ls st) := by
  subst hp
  subst hv
  exact Go.by (fun t q => XS.lconst X.here hx rfl (hb hby hd) q) k
theorem own_aconstNull (X : Stand p l e R s m args below meth c T locs cells slots) (hx : p.tables.exec = Jvm.exec) (hby : c.code = bs)  (hd : decode bs pc = .ok (.aconst_null, 1))  (pc' : Nat) (hp : pc + 1 = pc') (k : Go p e below G T (mkF m pc' Ls (.null :: st))) : Go p e below G T (mkF m pc Ls st) := by
  subst hp
  exact Go.by (fun t q => XS.aconstNull X.here hx rfl (hb hby hd) q) k
theorem own_iadd (X : Stand p l e R s m args below meth c T locs cells slots) (hx : p.tables.exec = Jvm.exec) (hby : c.code = bs) {x y : Int32} (hd : decode bs pc = .ok (.iadd, 1))  (pc' : Nat) (hp : pc + 1 = pc') (k : Go p e below G T (mkF m pc' Ls (.int (x + y) :: st))) : Go p e below G T (mkF m pc Ls (.int y :: .int x :: st)) := by
  subst hp
  exact Go.by (fun t q => XS.iadd X.here hx rfl (hb hby hd) rfl q) k
theorem own_isub (X : Stand p l e R s m args below meth c T locs cells slots) (hx : p.tables.exec = Jvm.exec) (hby : c.code = bs) {x y : Int32} (hd : decode bs pc = .ok (.isub, 1))  (pc' : Nat) (hp : pc + 1 = pc') (k : Go p e below G T (mkF m pc' Ls (.int (x - y) :: st))) : Go p e below G T (mkF m pc Ls (.int y :: .int x :: st)) := by
  subst hp
  exact Go.by (fun t q => XS.isub X.here hx rfl (hb hby hd) rfl q) k
theorem own_imul (X : Stand p l e R s m args below meth c T locs cells slots) (hx : p.tables.exec = Jvm.exec) (hby : c.code = bs) {x y : Int32} (hd : decode bs pc = .ok (.imul, 1))  (pc' : Nat) (hp : pc + 1 = pc') (k : Go p e below G T (mkF m pc' Ls (.int (x * y) :: st))) : Go p e below G T (mkF m pc Ls (.int y :: .int x :: st)) := by
  subst hp
  exact Go.by (fun t q => XS.imul X.here hx rfl (hb hby hd) rfl q) k
theorem own_iand (X : Stand p l e R s m args below meth c T locs cells slots) (hx : p.tables.exec = Jvm.exec) (hby : c.code = bs) {x y : Int32} (hd : decode bs pc = .ok (.iand, 1))  (pc' : Nat) (hp : pc + 1 = pc') (k : Go p e below G T (mkF m pc' Ls (.int (x &&& y) :: st))) : Go p e below G T (mkF m pc Ls (.int y :: .int x :: st)) := by
  subst hp
  exact Go.by (fun t q => XS.iand X.here hx rfl (hb hby hd) rfl q) k
theorem own_ior (X : Stand p l e R s m args below meth c T locs cells slots) (hx : p.tables.exec = Jvm.exec) (hby : c.code = bs) {x y : Int32} (hd : decode bs pc = .ok (.ior, 1))  (pc' : Nat) (hp : pc + 1 = pc') (k : Go p e below G T (mkF m pc' Ls (.int (x ||| y) :: st))) : Go p e below G T (mkF m pc Ls (.int y :: .int x :: st)) := by
  subst hp
  exact Go.by (fun t q => XS.ior X.here hx rfl (hb hby hd) rfl q) k
theorem own_ixor (X : Stand p l e R s m args below meth c T locs cells slots) (hx : p.tables.exec = Jvm.exec) (hby : c.code = bs) {x y : Int32} (hd : decode bs pc = .ok (.ixor, 1))  (pc' : Nat) (hp : pc + 1 = pc') (k : Go p e below G T (mkF m pc' Ls (.int (x ^^^ y) :: st))) : Go p e below G T (mkF m pc Ls (.int y :: .int x :: st)) := by
  subst hp
  exact Go.by (fun t q => XS.ixor X.here hx rfl (hb hby hd) rfl q) k
theorem own_ishl (X : Stand p l e R s m args below meth c T locs cells slots) (hx : p.tables.exec = Jvm.exec) (hby : c.code = bs) {x y : Int32} (hd : decode bs pc = .ok (.ishl, 1))  (pc' : Nat) (hp : pc + 1 = pc') (k : Go p e below G T (mkF m pc' Ls (.int (x <<< (y &&& 31)) :: st))) : Go p e below G T (mkF m pc Ls (.int y :: .int x :: st)) := by
  subst hp
  exact Go.by (fun t q => XS.ishl X.here hx rfl (hb hby hd) rfl q) k
theorem own_ishr (X : Stand p l e R s m args below meth c T locs cells slots) (hx : p.tables.exec = Jvm.exec) (hby : c.code = bs) {x y : Int32} (hd : decode bs pc = .ok (.ishr, 1))  (pc' : Nat) (hp : pc + 1 = pc') (k : Go p e below G T (mkF m pc' Ls (.int (x >>> (y &&& 31)) :: st))) : Go p e below G T (mkF m pc Ls (.int y :: .int x :: st)) := by
  subst hp
  exact Go.by (fun t q => XS.ishr X.here hx rfl (hb hby hd) rfl q) k
theorem own_iushr (X : Stand p l e R s m args below meth c T locs cells slots) (hx : p.tables.exec = Jvm.exec) (hby : c.code = bs) {x y : Int32} (hd : decode bs pc = .ok (.iushr, 1))  (pc' : Nat) (hp : pc + 1 = pc') (k : Go p e below G T (mkF m pc' Ls (.int ((x.toUInt32 >>> (y &&& 31).toUInt32).toInt32) :: st))) : Go p e below G T (mkF m pc Ls (.int y :: .int x :: st)) := by
  subst hp
  exact Go.by (fun t q => XS.iushr X.here hx rfl (hb hby hd) rfl q) k
theorem own_ladd (X : Stand p l e R s m args below meth c T locs cells slots) (hx : p.tables.exec = Jvm.exec) (hby : c.code = bs) {x y : Int64} (hd : decode bs pc = .ok (.ladd, 1))  (pc' : Nat) (hp : pc + 1 = pc') (k : Go p e below G T (mkF m pc' Ls (.long (x + y) :: st))) : Go p e below G T (mkF m pc Ls (.long y :: .long x :: st)) := by
  subst hp
  exact Go.by (fun t q => XS.ladd X.here hx rfl (hb hby hd) rfl q) k
theorem own_lsub (X : Stand p l e R s m args below meth c T locs cells slots) (hx : p.tables.exec = Jvm.exec) (hby : c.code = bs) {x y : Int64} (hd : decode bs pc = .ok (.lsub, 1))  (pc' : Nat) (hp : pc + 1 = pc') (k : Go p e below G T (mkF m pc' Ls (.long (x - y) :: st))) : Go p e below G T (mkF m pc Ls (.long y :: .long x :: st)) := by
  subst hp
  exact Go.by (fun t q => XS.lsub X.here hx rfl (hb hby hd) rfl q) k
theorem own_lmul (X : Stand p l e R s m args below meth c T locs cells slots) (hx : p.tables.exec = Jvm.exec) (hby : c.code = bs) {x y : Int64} (hd : decode bs pc = .ok (.lmul, 1))  (pc' : Nat) (hp : pc + 1 = pc') (k : Go p e below G T (mkF m pc' Ls (.long (x * y) :: st))) : Go p e below G T (mkF m pc Ls (.long y :: .long x :: st)) := by
  subst hp
  exact Go.by (fun t q => XS.lmul X.here hx rfl (hb hby hd) rfl q) k
theorem own_land (X : Stand p l e R s m args below meth c T locs cells slots) (hx : p.tables.exec = Jvm.exec) (hby : c.code = bs) {x y : Int64} (hd : decode bs pc = .ok (.land, 1))  (pc' : Nat) (hp : pc + 1 = pc') (k : Go p e below G T (mkF m pc' Ls (.long (x &&& y) :: st))) : Go p e below G T (mkF m pc Ls (.long y :: .long x :: st)) := by
  subst hp
  exact Go.by (fun t q => XS.land X.here hx rfl (hb hby hd) rfl q) k
theorem own_lor (X : Stand p l e R s m args below meth c T locs cells slots) (hx : p.tables.exec = Jvm.exec) (hby : c.code = bs) {x y : Int64} (hd : decode bs pc = .ok (.lor, 1))  (pc' : Nat) (hp : pc + 1 = pc') (k : Go p e below G T (mkF m pc' Ls (.long (x ||| y) :: st))) : Go p e below G T (mkF m pc Ls (.long y :: .long x :: st)) := by
  subst hp
  exact Go.by (fun t q => XS.lor X.here hx rfl (hb hby hd) rfl q) k
theorem own_lxor (X : Stand p l e R s m args below meth c T locs cells slots) (hx : p.tables.exec = Jvm.exec) (hby : c.code = bs) {x y : Int64} (hd : decode bs pc = .ok (.lxor, 1))  (pc' : Nat) (hp : pc + 1 = pc') (k : Go p e below G T (mkF m pc' Ls (.long (x ^^^ y) :: st))) : Go p e below G T (mkF m pc Ls (.long y :: .long x :: st)) := by
  subst hp
  exact Go.by (fun t q => XS.lxor X.here hx rfl (hb hby hd) rfl q) k
theorem own_lshl (X : Stand p l e R s m args below meth c T locs cells slots) (hx : p.tables.exec = Jvm.exec) (hby : c.code = bs) {x : Int64} {y : Int32} (hd : decode bs pc = .ok (.lshl, 1))  (pc' : Nat) (hp : pc + 1 = pc') (k : Go p e below G T (mkF m pc' Ls (.long (x <<< (y &&& 0x3f).toInt64) :: st))) : Go p e below G T (mkF m pc Ls (.int y :: .long x :: st)) := by
  subst hp
  exact Go.by (fun t q => XS.lshl X.here hx rfl (hb hby hd) rfl q) k
theorem own_lshr (X : Stand p l e R s m args below meth c T locs cells slots) (hx : p.tables.exec = Jvm.exec) (hby : c.code = bs) {x : Int64} {y : Int32} (hd : decode bs pc = .ok (.lshr, 1))  (pc' : Nat) (hp : pc + 1 = pc') (k : Go p e below G T (mkF m pc' Ls (.long (x >>> (y &&& 0x3f).toInt64) :: st))) : Go p e below G T (mkF m pc Ls (.int y :: .long x :: st)) := by
  subst hp
  exact Go.by (fun t q => XS.lshr X.here hx rfl (hb hby hd) rfl q) k
theorem own_lushr (X : Stand p l e R s m args below meth c T locs cells slots) (hx : p.tables.exec = Jvm.exec) (hby : c.code = bs) {x : Int64} {y : Int32} (hd : decode bs pc = .ok (.lushr, 1))  (pc' : Nat) (hp : pc + 1 = pc') (k : Go p e below G T (mkF m pc' Ls (.long ((x.toUInt64 >>> (y &&& 0x3f).toInt64.toUInt64).toInt64) :: st))) : Go p e below G T (mkF m pc Ls (.int y :: .long x :: st)) := by
  subst hp
  exact Go.by (fun t q => XS.lushr X.here hx rfl (hb hby hd) rfl q) k
theorem own_ineg (X : Stand p l e R s m args below meth c T locs cells slots) (hx : p.tables.exec = Jvm.exec) (hby : c.code = bs) {x : Int32} (hd : decode bs pc = .ok (.ineg, 1))  (pc' : Nat) (hp : pc + 1 = pc') (k : Go p e below G T (mkF m pc' Ls (.int (-x) :: st))) : Go p e below G T (mkF m pc Ls (.int x :: st)) := by
  subst hp
  exact Go.by (fun t q => XS.ineg X.here hx rfl (hb hby hd) rfl q) k
theorem own_lneg (X : Stand p l e R s m args below meth c T locs cells slots) (hx : p.tables.exec = Jvm.exec) (hby : c.code = bs) {x : Int64} (hd : decode bs pc = .ok (.lneg, 1))  (pc' : Nat) (hp : pc + 1 = pc') (k : Go p e below G T (mkF m pc' Ls (.long (-x) :: st))) : Go p e below G T (mkF m pc Ls (.long x :: st)) := by
  subst hp
  exact Go.by (fun t q => XS.lneg X.here hx rfl (hb hby hd) rfl q) k
theorem own_i2l (X : Stand p l e R s m args below meth c T locs cells slots) (hx : p.tables.exec = Jvm.exec) (hby : c.code = bs) {x : Int32} (hd : decode bs pc = .ok (.i2l, 1))  (pc' : Nat) (hp : pc + 1 = pc') (k : Go p e below G T (mkF m pc' Ls (.long (x.toInt64) :: st))) : Go p e below G T (mkF m pc Ls (.int x :: st)) := by
  subst hp
  exact Go.by (fun t q => XS.i2l X.here hx rfl (hb hby hd) rfl q) k
theorem own_l2i (X : Stand p l e R s m args below meth c T locs cells slots) (hx : p.tables.exec = Jvm.exec) (hby : c.code = bs) {x : Int64} (hd : decode bs pc = .ok (.l2i, 1))  (pc' : Nat) (hp : pc + 1 = pc') (k : Go p e below G T (mkF m pc' Ls (.int (x.toInt32) :: st))) : Go p e below G T (mkF m pc Ls (.long x :: st)) := by
  subst hp
  exact Go.by (fun t q => XS.l2i X.here hx rfl (hb hby hd) rfl q) k
theorem own_i2b (X : Stand p l e R s m args below meth c T locs cells slots) (hx : p.tables.exec = Jvm.exec) (hby : c.code = bs) {x : Int32} (hd : decode bs pc = .ok (.i2b, 1))  (pc' : Nat) (hp : pc + 1 = pc') (k : Go p e below G T (mkF m pc' Ls (.int (x.toInt8.toInt32) :: st))) : Go p e below G T (mkF m pc Ls (.int x :: st)) := by
  subst hp
  exact Go.by (fun t q => XS.i2b X.here hx rfl (hb hby hd) rfl q) k
theorem own_i2s (X : Stand p l e R s m args below meth c T locs cells slots) (hx : p.tables.exec = Jvm.exec) (hby : c.code = bs) {x : Int32} (hd : decode bs pc = .ok (.i2s, 1))  (pc' : Nat) (hp : pc + 1 = pc') (k : Go p e below G T (mkF m pc' Ls (.int (x.toInt16.toInt32) :: st))) : Go p e below G T (mkF m pc Ls (.int x :: st)) := by
  subst hp
  exact Go.by (fun t q => XS.i2s X.here hx rfl (hb hby hd) rfl q) k
theorem own_i2c (X : Stand p l e R s m args below meth c T locs cells slots) (hx : p.tables.exec = Jvm.exec) (hby : c.code = bs) {x : Int32} (hd : decode bs pc = .ok (.i2c, 1))  (pc' : Nat) (hp : pc + 1 = pc') (k : Go p e below G T (mkF m pc' Ls (.int (x.toUInt32.toUInt16.toUInt32.toInt32) :: st))) : Go p e below G T (mkF m pc Ls (.int x :: st)) := by
  subst hp
  exact Go.by (fun t q => XS.i2c X.here hx rfl (hb hby hd) rfl q) k
theorem own_idiv (X : Stand p l e R s m args below meth c T locs cells slots) (hx : p.tables.exec = Jvm.exec) (hby : c.code = bs) {x y : Int32} (hd : decode bs pc = .ok (.idiv, 1)) (hy : y ≠ 0) (pc' : Nat) (hp : pc + 1 = pc') (k : Go p e below G T (mkF m pc' Ls (.int (x / y) :: st))) : Go p e below G T (mkF m pc Ls (.int y :: .int x :: st)) := by
  subst hp
  exact Go.by (fun t q => XS.idiv X.here hx rfl (hb hby hd) rfl hy q) k
theorem own_ldiv (X : Stand p l e R s m args below meth c T locs cells slots) (hx : p.tables.exec = Jvm.exec) (hby : c.code = bs) {x y : Int64} (hd : decode bs pc = .ok (.ldiv, 1)) (hy : y ≠ 0) (pc' : Nat) (hp : pc + 1 = pc') (k : Go p e below G T (mkF m pc' Ls (.long (x / y) :: st))) : Go p e below G T (mkF m pc Ls (.long y :: .long x :: st)) := by
  subst hp
  exact Go.by (fun t q => XS.ldiv X.here hx rfl (hb hby hd) rfl hy q) k
theorem own_irem (X : Stand p l e R s m args below meth c T locs cells slots) (hx : p.tables.exec = Jvm.exec) (hby : c.code = bs) {x y : Int32} (hd : decode bs pc = .ok (.irem, 1)) (hy : y ≠ 0) (pc' : Nat) (hp : pc + 1 = pc') (k : Go p e below G T (mkF m pc' Ls (.int (x % y) :: st))) : Go p e below G T (mkF m pc Ls (.int y :: .int x :: st)) := by
  subst hp
  exact Go.by (fun t q => iremM X hx rfl (hb hby hd) rfl hy q) k
theorem own_lrem (X : Stand p l e R s m args below meth c T locs cells slots) (hx : p.tables.exec = Jvm.exec) (hby : c.code = bs) {x y : Int64} (hd : decode bs pc = .ok (.lrem, 1)) (hy : y ≠ 0) (pc' : Nat) (hp : pc + 1 = pc') (k : Go p e below G T (mkF m pc' Ls (.long (x % y) :: st))) : Go p e below G T (mkF m pc Ls (.long y :: .long x :: st)) := by
  subst hp
  rw [← lrem_mod] at k
  exact Go.by (fun t q => XS.lrem X.here hx rfl (hb hby hd) rfl hy q) k
theorem own_iinc (X : Stand p l e R s m args below meth c T locs cells slots) (hx : p.tables.exec = Jvm.exec) (hby : c.code = bs) {n : Nat} {cst : Int} {x x' : Int32} (hd : decode bs pc = .ok (.iinc n cst, 3)) (hl : Ls[n]? = some (.val (.int x))) (ex : x + Int32.ofInt cst = x') {l' : Array Slot} (hl' : storeLocals Ls n (.int x') = some l') (pc' : Nat) (hp : pc + 3 = pc') (k : Go p e below G T (mkF m pc' l' st)) : Go p e below G T (mkF m pc Ls st) := by
  subst hp
  subst ex
  exact Go.by (fun t q => XS.iinc X.here hx rfl (hb hby hd) hl hl' q) k
theorem own_dup (X : Stand p l e R s m args below meth c T locs cells slots) (hx : p.tables.exec = Jvm.exec) (hby : c.code = bs) {x : Value} (hd : decode bs pc = .ok (.dup, 1)) (hc : x.category = 1) (pc' : Nat) (hp : pc + 1 = pc') (k : Go p e below G T (mkF m pc' Ls (x :: x :: st))) : Go p e below G T (mkF m pc Ls (x :: st)) := by
  subst hp
  exact Go.by (fun t q => XS.dup X.here hx rfl (hb hby hd) rfl hc q) k
theorem own_pop (X : Stand p l e R s m args below meth c T locs cells slots) (hx : p.tables.exec = Jvm.exec) (hby : c.code = bs) {x : Value} (hd : decode bs pc = .ok (.pop, 1)) (hc : x.category = 1) (pc' : Nat) (hp : pc + 1 = pc') (k : Go p e below G T (mkF m pc' Ls st)) : Go p e below G T (mkF m pc Ls (x :: st)) := by
  subst hp
  exact Go.by (fun t q => XS.pop X.here hx rfl (hb hby hd) rfl hc q) k
theorem own_dupX1 (X : Stand p l e R s m args below meth c T locs cells slots) (hx : p.tables.exec = Jvm.exec) (hby : c.code = bs) {x y : Value} (hd : decode bs pc = .ok (.dup_x1, 1)) (hc : x.category = 1) (hc2 : y.category = 1) (pc' : Nat) (hp : pc + 1 = pc') (k : Go p e below G T (mkF m pc' Ls (x :: y :: x :: st))) : Go p e below G T (mkF m pc Ls (x :: y :: st)) := by
  subst hp
  exact Go.by (fun t q => XS.dupX1 X.here hx rfl (hb hby hd) rfl hc hc2 q) k
theorem own_dup2 (X : Stand p l e R s m args below meth c T locs cells slots) (hx : p.tables.exec = Jvm.exec) (hby : c.code = bs) {x y : Value} (hd : decode bs pc = .ok (.dup2, 1)) (hc : x.category = 1) (hc2 : y.category = 1) (pc' : Nat) (hp : pc + 1 = pc') (k : Go p e below G T (mkF m pc' Ls (x :: y :: x :: y :: st))) : Go p e below G T (mkF m pc Ls (x :: y :: st)) := by
  subst hp
  exact Go.by (fun t q => XT.dup2 X.here hx rfl (hb hby hd) rfl hc hc2 q) k
theorem own_dup2L (X : Stand p l e R s m args below meth c T locs cells slots) (hx : p.tables.exec = Jvm.exec) (hby : c.code = bs) {x : Int64} (hd : decode bs pc = .ok (.dup2, 1))  (pc' : Nat) (hp : pc + 1 = pc') (k : Go p e below G T (mkF m pc' Ls (.long x :: .long x :: st))) : Go p e below G T (mkF m pc Ls (.long x :: st)) := by
  subst hp
  exact Go.by (fun t q => XT.dup2L X.here hx rfl (hb hby hd) rfl q) k
theorem own_goto (X : Stand p l e R s m args below meth c T locs cells slots) (hx : p.tables.exec = Jvm.exec) (hby : c.code = bs) {o : Int} (hd : decode bs pc = .ok (.goto o, 3)) (pc' : Nat) (hp : 0 ≤ (pc : Int) + o ∧ ((pc : Int) + o).toNat = pc') (k : Go p e below G T (mkF m pc' Ls st)) : Go p e below G T (mkF m pc Ls st) :=
  Go.by (fun t q => XS.goto X.here hx rfl rfl (hb hby hd) hp.1 hp.2 q) k
theorem own_top {v v' : Value} (q : v = v') (k : Go p e below G T (mkF m pc Ls (v' :: st))) : Go p e below G T (mkF m pc Ls (v :: st)) := q ▸ k
theorem own_icmp_eq (X : Stand p l e R s m args below meth c T locs cells slots) (hx : p.tables.exec = Jvm.exec) (hby : c.code = bs) {o : Int} {x y : Int32} (hd : decode bs pc = .ok (.if_icmp .eq o, 3)) (pT pF : Nat) (hp : 0 ≤ (pc : Int) + o ∧ ((pc : Int) + o).toNat = pT) (hpF : pc + 3 = pF) (kT : x = y → Go p e below G T (mkF m pT Ls st)) (kF : ¬ x = y → Go p e below G T (mkF m pF Ls st)) : Go p e below G T (mkF m pc Ls (.int y :: .int x :: st)) := by
  subst hpF
  by_cases q0 : x = y
  · have q := q0
    exact Go.by (fun t r => XS.icmpYes X.here hx rfl rfl (hb hby hd) rfl (teq q).1 hp.1 hp.2 r) (kT q0)
  · have q : ¬ x = y := by first | exact q0 | exact Classical.not_not.mp q0
    exact Go.by (fun t r => XS.icmpNo X.here hx rfl (hb hby hd) rfl (feq q).1 r) (kF q)
theorem own_if_eq (X : Stand p l e R s m args below meth c T locs cells slots) (hx : p.tables.exec = Jvm.exec) (hby : c.code = bs) {o : Int} {x : Int32} (hd : decode bs pc = .ok (.ifCond .eq o, 3)) (pT pF : Nat) (hp : 0 ≤ (pc : Int) + o ∧ ((pc : Int) + o).toNat = pT) (hpF : pc + 3 = pF) (kT : x = (0 : Int32) → Go p e below G T (mkF m pT Ls st)) (kF : ¬ x = (0 : Int32) → Go p e below G T (mkF m pF Ls st)) : Go p e below G T (mkF m pc Ls (.int x :: st)) := by
  subst hpF
  by_cases q0 : x = (0 : Int32)
  · have q := q0
    exact Go.by (fun t r => XS.ifYes X.here hx rfl rfl (hb hby hd) rfl ((if0 _ _).trans (teq q).1) hp.1 hp.2 r) (kT q0)
  · have q : ¬ x = (0 : Int32) := by first | exact q0 | exact Classical.not_not.mp q0
    exact Go.by (fun t r => XS.ifNo X.here hx rfl (hb hby hd) rfl ((if0 _ _).trans (feq q).1) r) (kF q)
theorem own_lcmp_eq (X : Stand p l e R s m args below meth c T locs cells slots) (hx : p.tables.exec = Jvm.exec) (hby : c.code = bs) {o : Int} {x y : Int64} (hd : decode bs pc = .ok (.lcmp, 1)) (hd2 : decode bs (pc + 1) = .ok (.ifCond .eq o, 3)) (pT pF : Nat) (hp : 0 ≤ ((pc + 1 : Nat) : Int) + o ∧ (((pc + 1 : Nat) : Int) + o).toNat = pT) (hpF : pc + 4 = pF) (kT : x = y → Go p e below G T (mkF m pT Ls st)) (kF : ¬ x = y → Go p e below G T (mkF m pF Ls st)) : Go p e below G T (mkF m pc Ls (.long y :: .long x :: st)) := by
  refine Go.by (fun t r => XS.lcmp X.here hx rfl (hb hby hd) rfl r) (g' := mkF m (pc + 1) Ls (.int (lcmpW x y) :: st)) ?_
  refine own_if_eq X hx hby hd2 pT pF hp (by omega) (fun q => kT ?_) (fun q => kF ?_)
  · exact (lw_eq x y).mp q
  · exact fun r => q ((lw_eq x y).mpr r)
theorem own_icmp_ne (X : Stand p l e R s m args below meth c T locs cells slots) (hx : p.tables.exec = Jvm.exec) (hby : c.code = bs) {o : Int} {x y : Int32} (hd : decode bs pc = .ok (.if_icmp .ne o, 3)) (pT pF : Nat) (hp : 0 ≤ (pc : Int) + o ∧ ((pc : Int) + o).toNat = pT) (hpF : pc + 3 = pF) (kT : ¬ x = y → Go p e below G T (mkF m pT Ls st)) (kF : x = y → Go p e below G T (mkF m pF Ls st)) : Go p e below G T (mkF m pc Ls (.int y :: .int x :: st)) := by
  subst hpF
  by_cases q0 : ¬ x = y
  · have q := q0
    exact Go.by (fun t r => XS.icmpYes X.here hx rfl rfl (hb hby hd) rfl (feq q).2 hp.1 hp.2 r) (kT q0)
  · have q : x = y := by first | exact q0 | exact Classical.not_not.mp q0
    exact Go.by (fun t r => XS.icmpNo X.here hx rfl (hb hby hd) rfl (teq q).2 r) (kF q)
theorem own_if_ne (X : Stand p l e R s m args below meth c T locs cells slots) (hx : p.tables.exec = Jvm.exec) (hby : c.code = bs) {o : Int} {x : Int32} (hd : decode bs pc = .ok (.ifCond .ne o, 3)) (pT pF : Nat) (hp : 0 ≤ (pc : Int) + o ∧ ((pc : Int) + o).toNat = pT) (hpF : pc + 3 = pF) (kT : ¬ x = (0 : Int32) → Go p e below G T (mkF m pT Ls st)) (kF : x = (0 : Int32) → Go p e below G T (mkF m pF Ls st)) : Go p e below G T (mkF m pc Ls (.int x :: st)) := by
  subst hpF
  by_cases q0 : ¬ x = (0 : Int32)
  · have q := q0
    exact Go.by (fun t r => XS.ifYes X.here hx rfl rfl (hb hby hd) rfl ((if0 _ _).trans (feq q).2) hp.1 hp.2 r) (kT q0)
  · have q : x = (0 : Int32) := by first | exact q0 | exact Classical.not_not.mp q0
    exact Go.by (fun t r => XS.ifNo X.here hx rfl (hb hby hd) rfl ((if0 _ _).trans (teq q).2) r) (kF q)
theorem own_lcmp_ne (X : Stand p l e R s m args below meth c T locs cells slots) (hx : p.tables.exec = Jvm.exec) (hby : c.code = bs) {o : Int} {x y : Int64} (hd : decode bs pc = .ok (.lcmp, 1)) (hd2 : decode bs (pc + 1) = .ok (.ifCond .ne o, 3)) (pT pF : Nat) (hp : 0 ≤ ((pc + 1 : Nat) : Int) + o ∧ (((pc + 1 : Nat) : Int) + o).toNat = pT) (hpF : pc + 4 = pF) (kT : ¬ x = y → Go p e below G T (mkF m pT Ls st)) (kF : x = y → Go p e below G T (mkF m pF Ls st)) : Go p e below G T (mkF m pc Ls (.long y :: .long x :: st)) := by
  refine Go.by (fun t r => XS.lcmp X.here hx rfl (hb hby hd) rfl r) (g' := mkF m (pc + 1) Ls (.int (lcmpW x y) :: st)) ?_
  refine own_if_ne X hx hby hd2 pT pF hp (by omega) (fun q => kT ?_) (fun q => kF ?_)
  · exact fun r => q ((lw_eq x y).mpr r)
  · exact (lw_eq x y).mp q
theorem own_icmp_lt (X : Stand p l e R s m args below meth c T locs cells slots) (hx : p.tables.exec = Jvm.exec) (hby : c.code = bs) {o : Int} {x y : Int32} (hd : decode bs pc = .ok (.if_icmp .lt o, 3)) (pT pF : Nat) (hp : 0 ≤ (pc : Int) + o ∧ ((pc : Int) + o).toNat = pT) (hpF : pc + 3 = pF) (kT : x < y → Go p e below G T (mkF m pT Ls st)) (kF : ¬ x < y → Go p e below G T (mkF m pF Ls st)) : Go p e below G T (mkF m pc Ls (.int y :: .int x :: st)) := by
  subst hpF
  by_cases q0 : x < y
  · have q := q0
    exact Go.by (fun t r => XS.icmpYes X.here hx rfl rfl (hb hby hd) rfl (tlt q).1 hp.1 hp.2 r) (kT q0)
  · have q : ¬ x < y := by first | exact q0 | exact Classical.not_not.mp q0
    exact Go.by (fun t r => XS.icmpNo X.here hx rfl (hb hby hd) rfl (flt q).1 r) (kF q)
theorem own_if_lt (X : Stand p l e R s m args below meth c T locs cells slots) (hx : p.tables.exec = Jvm.exec) (hby : c.code = bs) {o : Int} {x : Int32} (hd : decode bs pc = .ok (.ifCond .lt o, 3)) (pT pF : Nat) (hp : 0 ≤ (pc : Int) + o ∧ ((pc : Int) + o).toNat = pT) (hpF : pc + 3 = pF) (kT : x < (0 : Int32) → Go p e below G T (mkF m pT Ls st)) (kF : ¬ x < (0 : Int32) → Go p e below G T (mkF m pF Ls st)) : Go p e below G T (mkF m pc Ls (.int x :: st)) := by
  subst hpF
  by_cases q0 : x < (0 : Int32)
  · have q := q0
    exact Go.by (fun t r => XS.ifYes X.here hx rfl rfl (hb hby hd) rfl ((if0 _ _).trans (tlt q).1) hp.1 hp.2 r) (kT q0)
  · have q : ¬ x < (0 : Int32) := by first | exact q0 | exact Classical.not_not.mp q0
    exact Go.by (fun t r => XS.ifNo X.here hx rfl (hb hby hd) rfl ((if0 _ _).trans (flt q).1) r) (kF q)
theorem own_lcmp_lt (X : Stand p l e R s m args below meth c T locs cells slots) (hx : p.tables.exec = Jvm.exec) (hby : c.code = bs) {o : Int} {x y : Int64} (hd : decode bs pc = .ok (.lcmp, 1)) (hd2 : decode bs (pc + 1) = .ok (.ifCond .lt o, 3)) (pT pF : Nat) (hp : 0 ≤ ((pc + 1 : Nat) : Int) + o ∧ (((pc + 1 : Nat) : Int) + o).toNat = pT) (hpF : pc + 4 = pF) (kT : x < y → Go p e below G T (mkF m pT Ls st)) (kF : ¬ x < y → Go p e below G T (mkF m pF Ls st)) : Go p e below G T (mkF m pc Ls (.long y :: .long x :: st)) := by
  refine Go.by (fun t r => XS.lcmp X.here hx rfl (hb hby hd) rfl r) (g' := mkF m (pc + 1) Ls (.int (lcmpW x y) :: st)) ?_
  refine own_if_lt X hx hby hd2 pT pF hp (by omega) (fun q => kT ?_) (fun q => kF ?_)
  · exact (lw_lt x y).mp q
  · exact fun r => q ((lw_lt x y).mpr r)
theorem own_icmp_ge (X : Stand p l e R s m args below meth c T locs cells slots) (hx : p.tables.exec = Jvm.exec) (hby : c.code = bs) {o : Int} {x y : Int32} (hd : decode bs pc = .ok (.if_icmp .ge o, 3)) (pT pF : Nat) (hp : 0 ≤ (pc : Int) + o ∧ ((pc : Int) + o).toNat = pT) (hpF : pc + 3 = pF) (kT : ¬ x < y → Go p e below G T (mkF m pT Ls st)) (kF : x < y → Go p e below G T (mkF m pF Ls st)) : Go p e below G T (mkF m pc Ls (.int y :: .int x :: st)) := by
  subst hpF
  by_cases q0 : ¬ x < y
  · have q := q0
    exact Go.by (fun t r => XS.icmpYes X.here hx rfl rfl (hb hby hd) rfl (flt q).2.1 hp.1 hp.2 r) (kT q0)
  · have q : x < y := by first | exact q0 | exact Classical.not_not.mp q0
    exact Go.by (fun t r => XS.icmpNo X.here hx rfl (hb hby hd) rfl (tlt q).2.1 r) (kF q)
theorem own_if_ge (X : Stand p l e R s m args below meth c T locs cells slots) (hx : p.tables.exec = Jvm.exec) (hby : c.code = bs) {o : Int} {x : Int32} (hd : decode bs pc = .ok (.ifCond .ge o, 3)) (pT pF : Nat) (hp : 0 ≤ (pc : Int) + o ∧ ((pc : Int) + o).toNat = pT) (hpF : pc + 3 = pF) (kT : ¬ x < (0 : Int32) → Go p e below G T (mkF m pT Ls st)) (kF : x < (0 : Int32) → Go p e below G T (mkF m pF Ls st)) : Go p e below G T (mkF m pc Ls (.int x :: st)) := by
  subst hpF
  by_cases q0 : ¬ x < (0 : Int32)
  · have q := q0
    exact Go.by (fun t r => XS.ifYes X.here hx rfl rfl (hb hby hd) rfl ((if0 _ _).trans (flt q).2.1) hp.1 hp.2 r) (kT q0)
  · have q : x < (0 : Int32) := by first | exact q0 | exact Classical.not_not.mp q0
    exact Go.by (fun t r => XS.ifNo X.here hx rfl (hb hby hd) rfl ((if0 _ _).trans (tlt q).2.1) r) (kF q)
theorem own_lcmp_ge (X : Stand p l e R s m args below meth c T locs cells slots) (hx : p.tables.exec = Jvm.exec) (hby : c.code = bs) {o : Int} {x y : Int64} (hd : decode bs pc = .ok (.lcmp, 1)) (hd2 : decode bs (pc + 1) = .ok (.ifCond .ge o, 3)) (pT pF : Nat) (hp : 0 ≤ ((pc + 1 : Nat) : Int) + o ∧ (((pc + 1 : Nat) : Int) + o).toNat = pT) (hpF : pc + 4 = pF) (kT : ¬ x < y → Go p e below G T (mkF m pT Ls st)) (kF : x < y → Go p e below G T (mkF m pF Ls st)) : Go p e below G T (mkF m pc Ls (.long y :: .long x :: st)) := by
  refine Go.by (fun t r => XS.lcmp X.here hx rfl (hb hby hd) rfl r) (g' := mkF m (pc + 1) Ls (.int (lcmpW x y) :: st)) ?_
  refine own_if_ge X hx hby hd2 pT pF hp (by omega) (fun q => kT ?_) (fun q => kF ?_)
  · exact fun r => q ((lw_lt x y).mpr r)
  · exact (lw_lt x y).mp q
theorem own_icmp_gt (X : Stand p l e R s m args below meth c T locs cells slots) (hx : p.tables.exec = Jvm.exec) (hby : c.code = bs) {o : Int} {x y : Int32} (hd : decode bs pc = .ok (.if_icmp .gt o, 3)) (pT pF : Nat) (hp : 0 ≤ (pc : Int) + o ∧ ((pc : Int) + o).toNat = pT) (hpF : pc + 3 = pF) (kT : y < x → Go p e below G T (mkF m pT Ls st)) (kF : ¬ y < x → Go p e below G T (mkF m pF Ls st)) : Go p e below G T (mkF m pc Ls (.int y :: .int x :: st)) := by
  subst hpF
  by_cases q0 : y < x
  · have q := q0
    exact Go.by (fun t r => XS.icmpYes X.here hx rfl rfl (hb hby hd) rfl (tlt q).2.2.1 hp.1 hp.2 r) (kT q0)
  · have q : ¬ y < x := by first | exact q0 | exact Classical.not_not.mp q0
    exact Go.by (fun t r => XS.icmpNo X.here hx rfl (hb hby hd) rfl (flt q).2.2.1 r) (kF q)
theorem own_if_gt (X : Stand p l e R s m args below meth c T locs cells slots) (hx : p.tables.exec = Jvm.exec) (hby : c.code = bs) {o : Int} {x : Int32} (hd : decode bs pc = .ok (.ifCond .gt o, 3)) (pT pF : Nat) (hp : 0 ≤ (pc : Int) + o ∧ ((pc : Int) + o).toNat = pT) (hpF : pc + 3 = pF) (kT : (0 : Int32) < x → Go p e below G T (mkF m pT Ls st)) (kF : ¬ (0 : Int32) < x → Go p e below G T (mkF m pF Ls st)) : Go p e below G T (mkF m pc Ls (.int x :: st)) := by
  subst hpF
  by_cases q0 : (0 : Int32) < x
  · have q := q0
    exact Go.by (fun t r => XS.ifYes X.here hx rfl rfl (hb hby hd) rfl ((if0 _ _).trans (tlt q).2.2.1) hp.1 hp.2 r) (kT q0)
  · have q : ¬ (0 : Int32) < x := by first | exact q0 | exact Classical.not_not.mp q0
    exact Go.by (fun t r => XS.ifNo X.here hx rfl (hb hby hd) rfl ((if0 _ _).trans (flt q).2.2.1) r) (kF q)
theorem own_lcmp_gt (X : Stand p l e R s m args below meth c T locs cells slots) (hx : p.tables.exec = Jvm.exec) (hby : c.code = bs) {o : Int} {x y : Int64} (hd : decode bs pc = .ok (.lcmp, 1)) (hd2 : decode bs (pc + 1) = .ok (.ifCond .gt o, 3)) (pT pF : Nat) (hp : 0 ≤ ((pc + 1 : Nat) : Int) + o ∧ (((pc + 1 : Nat) : Int) + o).toNat = pT) (hpF : pc + 4 = pF) (kT : y < x → Go p e below G T (mkF m pT Ls st)) (kF : ¬ y < x → Go p e below G T (mkF m pF Ls st)) : Go p e below G T (mkF m pc Ls (.long y :: .long x :: st)) := by
  refine Go.by (fun t r => XS.lcmp X.here hx rfl (hb hby hd) rfl r) (g' := mkF m (pc + 1) Ls (.int (lcmpW x y) :: st)) ?_
  refine own_if_gt X hx hby hd2 pT pF hp (by omega) (fun q => kT ?_) (fun q => kF ?_)
  · exact (lw_gt x y).mp q
  · exact fun r => q ((lw_gt x y).mpr r)
theorem own_icmp_le (X : Stand p l e R s m args below meth c T locs cells slots) (hx : p.tables.exec = Jvm.exec) (hby : c.code = bs) {o : Int} {x y : Int32} (hd : decode bs pc = .ok (.if_icmp .le o, 3)) (pT pF : Nat) (hp : 0 ≤ (pc : Int) + o ∧ ((pc : Int) + o).toNat = pT) (hpF : pc + 3 = pF) (kT : ¬ y < x → Go p e below G T (mkF m pT Ls st)) (kF : y < x → Go p e below G T (mkF m pF Ls st)) : Go p e below G T (mkF m pc Ls (.int y :: .int x :: st)) := by
  subst hpF
  by_cases q0 : ¬ y < x
  · have q := q0
    exact Go.by (fun t r => XS.icmpYes X.here hx rfl rfl (hb hby hd) rfl (flt q).2.2.2 hp.1 hp.2 r) (kT q0)
  · have q : y < x := by first | exact q0 | exact Classical.not_not.mp q0
    exact Go.by (fun t r => XS.icmpNo X.here hx rfl (hb hby hd) rfl (tlt q).2.2.2 r) (kF q)
theorem own_if_le (X : Stand p l e R s m args below meth c T locs cells slots) (hx : p.tables.exec = Jvm.exec) (hby : c.code = bs) {o : Int} {x : Int32} (hd : decode bs pc = .ok (.ifCond .le o, 3)) (pT pF : Nat) (hp : 0 ≤ (pc : Int) + o ∧ ((pc : Int) + o).toNat = pT) (hpF : pc + 3 = pF) (kT : ¬ (0 : Int32) < x → Go p e below G T (mkF m pT Ls st)) (kF : (0 : Int32) < x → Go p e below G T (mkF m pF Ls st)) : Go p e below G T (mkF m pc Ls (.int x :: st)) := by
  subst hpF
  by_cases q0 : ¬ (0 : Int32) < x
  · have q := q0
    exact Go.by (fun t r => XS.ifYes X.here hx rfl rfl (hb hby hd) rfl ((if0 _ _).trans (flt q).2.2.2) hp.1 hp.2 r) (kT q0)
  · have q : (0 : Int32) < x := by first | exact q0 | exact Classical.not_not.mp q0
    exact Go.by (fun t r => XS.ifNo X.here hx rfl (hb hby hd) rfl ((if0 _ _).trans (tlt q).2.2.2) r) (kF q)
theorem own_lcmp_le (X : Stand p l e R s m args below meth c T locs cells slots) (hx : p.tables.exec = Jvm.exec) (hby : c.code = bs) {o : Int} {x y : Int64} (hd : decode bs pc = .ok (.lcmp, 1)) (hd2 : decode bs (pc + 1) = .ok (.ifCond .le o, 3)) (pT pF : Nat) (hp : 0 ≤ ((pc + 1 : Nat) : Int) + o ∧ (((pc + 1 : Nat) : Int) + o).toNat = pT) (hpF : pc + 4 = pF) (kT : ¬ y < x → Go p e below G T (mkF m pT Ls st)) (kF : y < x → Go p e below G T (mkF m pF Ls st)) : Go p e below G T (mkF m pc Ls (.long y :: .long x :: st)) := by
  refine Go.by (fun t r => XS.lcmp X.here hx rfl (hb hby hd) rfl r) (g' := mkF m (pc + 1) Ls (.int (lcmpW x y) :: st)) ?_
  refine own_if_le X hx hby hd2 pT pF hp (by omega) (fun q => kT ?_) (fun q => kF ?_)
  · exact fun r => q ((lw_gt x y).mpr r)
  · exact (lw_gt x y).mp q
theorem own_ifnullY (X : Stand p l e R s m args below meth c T locs cells slots) (hx : p.tables.exec = Jvm.exec) (hby : c.code = bs) {o : Int}  (hd : decode bs pc = .ok (.ifnull o, 3)) (pc' : Nat) (hp : 0 ≤ (pc : Int) + o ∧ ((pc : Int) + o).toNat = pc') (k : Go p e below G T (mkF m pc' Ls st)) : Go p e below G T (mkF m pc Ls (.null :: st)) :=
  Go.by (fun t q => XS.ifnullYes X.here hx rfl rfl (hb hby hd) rfl hp.1 hp.2 q) k
theorem own_ifnullN (X : Stand p l e R s m args below meth c T locs cells slots) (hx : p.tables.exec = Jvm.exec) (hby : c.code = bs) {o : Int} {b : Addr} (hd : decode bs pc = .ok (.ifnull o, 3)) (pc' : Nat) (hp : pc + 3 = pc') (k : Go p e below G T (mkF m pc' Ls st)) : Go p e below G T (mkF m pc Ls (.ref b :: st)) := by
  subst hp
  exact Go.by (fun t q => XS.ifnullNo X.here hx rfl (hb hby hd) rfl q) k
theorem own_ifnonnullY (X : Stand p l e R s m args below meth c T locs cells slots) (hx : p.tables.exec = Jvm.exec) (hby : c.code = bs) {o : Int} {b : Addr} (hd : decode bs pc = .ok (.ifnonnull o, 3)) (pc' : Nat) (hp : 0 ≤ (pc : Int) + o ∧ ((pc : Int) + o).toNat = pc') (k : Go p e below G T (mkF m pc' Ls st)) : Go p e below G T (mkF m pc Ls (.ref b :: st)) :=
  Go.by (fun t q => XS.ifnonnullYes X.here hx rfl rfl (hb hby hd) rfl hp.1 hp.2 q) k
theorem own_ifnonnullN (X : Stand p l e R s m args below meth c T locs cells slots) (hx : p.tables.exec = Jvm.exec) (hby : c.code = bs) {o : Int}  (hd : decode bs pc = .ok (.ifnonnull o, 3)) (pc' : Nat) (hp : pc + 3 = pc') (k : Go p e below G T (mkF m pc' Ls st)) : Go p e below G T (mkF m pc Ls (.null :: st)) := by
  subst hp
  exact Go.by (fun t q => XS.ifnonnullNo X.here hx rfl (hb hby hd) rfl q) k
theorem own_ldc (X : Stand p l e R s m args below meth c T locs cells slots) (hx : p.tables.exec = Jvm.exec) (hby : c.code = bs) (hZ : Z.Warmed39 s.vm) {own : String} {idx : Nat} (v : Int32) (hown : s.vm.findClass own = some m.cls) (w : (Jvm.Cond.constant own idx v).before a0 Z = true) (hd : decode bs pc = .ok (.ldc idx, 2)) (pc' : Nat) (hp : pc + 2 = pc') (k : Go p e below G T (mkF m pc' Ls (.int v :: st))) : Go p e below G T (mkF m pc Ls st) := by
  subst hp
  exact Go.by (fun t q => X.ldcInt hx hown (mvT hZ w) (g := mkF m pc Ls st) rfl (hb hby hd) t q) k
theorem own_ldc2 (X : Stand p l e R s m args below meth c T locs cells slots) (hx : p.tables.exec = Jvm.exec) (hby : c.code = bs) (hZ : Z.Warmed39 s.vm) {own : String} {idx : Nat} (v : Int64) (hown : s.vm.findClass own = some m.cls) (w : (Jvm.Cond.constantLong own idx v).before a0 Z = true) (hd : decode bs pc = .ok (.ldc2_w idx, 3)) (pc' : Nat) (hp : pc + 3 = pc') (k : Go p e below G T (mkF m pc' Ls (.long v :: st))) : Go p e below G T (mkF m pc Ls st) := by
  subst hp
  exact Go.by (fun t q => X.ldc2Long hx hown (mvT hZ w) (g := mkF m pc Ls st) rfl (hb hby hd) t q) k
theorem own_callS (X : Stand p l e R s m args below meth c T locs cells slots) (hx : p.tables.exec = Jvm.exec) (hby : c.code = bs) (hZ : Z.Warmed39 s.vm) {own : String} {idx : Nat} {y : MethodName} {yb : ByteArray} {yml : Nat} {yrt : Option FieldType} {rm : Room} {as : Array Value} {Qc : Option Value → Heap → List Loc → Prop} (argsL : List Value) (has : argsL.toArray = as) (hown : s.vm.findClass own = some m.cls) (w1 : (Jvm.Cond.methodLink own idx y).before a0 Z = true) (w2 : (Jvm.Cond.static y).before a0 Z = true) (w3 : (Jvm.Cond.initialized y.cls).before a0 Z = true) (w4 : (Jvm.Cond.code y yb yml yrt).before a0 Z = true) (hy : y.cls ≠ "java/lang/invoke/MethodHandle" ∧ y.cls ≠ "java/lang/invoke/VarHandle") (hd : decode bs pc = .ok (.invokestatic idx, 3)) (hM : Met1 l Z y yb yml yrt rm as h Qc) (eT : T.heap = h) {ps : List FieldType} {pr : Option FieldType} (hpd : parseMethodDescriptor y.desc = some ⟨ps, pr⟩) (hlen : argsL.length = ps.length) (hml : Ls.size = c.maxLocals) (hf : rm.frames + 1 ≤ R.frames) (W : Nat) (hW : (st.map fun v => v.category).sum = W) (hl : W + (yml + 11) + rm.locals ≤ R.locals) (hcl : cells + rm.cells ≤ R.cells) (hsl : slots + rm.slots ≤ R.slots) (pc' : Nat) (hp : pc + 3 = pc') (k : ∀ (T' : State) (L : List Loc) (v : Option Value), Stand p l e R s m args below meth c T' (locs ++ L) (cells + rm.cells) (slots + rm.slots) → Qc v T'.heap L → Go p e below G T' (mkF m pc' Ls (v.toList ++ st))) : Go p e below G T (mkF m pc Ls (argsL.reverse ++ st)) := by
  subst has
  subst hp
  obtain ⟨v, vm₁, ⟨T1, L1, k1, n1⟩, -, X1, ⟨Lc, hQ, l1, y1, z1⟩, st1⟩ := Jvm.LawKit.callS X hx (y := y) hown (mvT hZ w1) (mvT hZ w2) (mvT hZ w3) (mvT hZ w4) hy (backOf (W := W) (hM []) hZ w4 w3 hf hl) (g := mkF m pc Ls (argsL.reverse ++ st)) rfl hml (argsL := argsL) (rest := st) (lenOf hpd hlen) rfl (by show 2 * 0 + _ ≤ _; omega) (hb hby hd) (fun _ _ => ⟨rfl, eT, hcl, hsl⟩)
  dsimp only [Pt.U, Pt.locs, Pt.cells, Pt.slots] at X1 l1 y1 z1 st1 hQ
  subst l1 y1 z1
  exact Go.by (fun t q => st1 t q) (k T1 Lc v X1 hQ)
theorem own_callC (X : Stand p l e R s m args below meth c T locs cells slots) (hx : p.tables.exec = Jvm.exec) (hby : c.code = bs) (hZ : Z.Warmed39 s.vm) {own : String} {idx : Nat} {y : MethodName} {yb : ByteArray} {yml : Nat} {rm : Room} {as : Array Value} {Qc : Option Value → Heap → List Loc → Prop} {a : Addr} (argsL : List Value) (has : (.ref a :: argsL).toArray = as) (hy1 : y.name = "<init>") (hown : s.vm.findClass own = some m.cls) (w1 : (Jvm.Cond.methodLink own idx y).before a0 Z = true) (w2 : (Jvm.Cond.instanceMethod y).before a0 Z = true) (w3 : (Jvm.Cond.initialized y.cls).before a0 Z = true) (w4 : (Jvm.Cond.code y yb yml none).before a0 Z = true) (hy : y.cls ≠ "java/lang/invoke/MethodHandle" ∧ y.cls ≠ "java/lang/invoke/VarHandle") (hd : decode bs pc = .ok (.invokespecial idx, 3)) (hM : Met1 l Z y yb yml none rm as h Qc) (eT : T.heap = h) {ps : List FieldType} {pr : Option FieldType} (hpd : parseMethodDescriptor y.desc = some ⟨ps, pr⟩) (hlen : argsL.length = ps.length) (hml : Ls.size = c.maxLocals) (hf : rm.frames + 1 ≤ R.frames) (W : Nat) (hW : (st.map fun v => v.category).sum = W) (hl : W + (yml + 11) + rm.locals ≤ R.locals) (hcl : cells + rm.cells ≤ R.cells) (hsl : slots + rm.slots ≤ R.slots) (pc' : Nat) (hp : pc + 3 = pc') (k : ∀ (T' : State) (L : List Loc) (v : Option Value), Stand p l e R s m args below meth c T' (locs ++ L) (cells + rm.cells) (slots + rm.slots) → Qc v T'.heap L → Go p e below G T' (mkF m pc' Ls (v.toList ++ st))) : Go p e below G T (mkF m pc Ls (argsL.reverse ++ .ref a :: st)) := by
  subst has
  subst hp
  obtain ⟨v, vm₁, ⟨T1, L1, k1, n1⟩, -, X1, ⟨Lc, hQ, l1, y1, z1⟩, st1⟩ := X.specialBack hx (y := y) hy1 hown (mvT hZ w1) (mvT hZ w2) (mvT hZ w4) hy (backOf (W := W) (hM []) hZ w4 w3 hf hl) (g := mkF m pc Ls (argsL.reverse ++ .ref a :: st)) rfl hml (Steps.refl _) (a := a) (argsL := argsL) (rest := st) (lenOf hpd hlen) rfl (by show 2 * 0 + _ ≤ _; omega) (hb hby hd) (fun _ _ => ⟨rfl, eT, hcl, hsl⟩)
  dsimp only [Pt.U, Pt.locs, Pt.cells, Pt.slots] at X1 l1 y1 z1 st1 hQ
  subst l1 y1 z1
  exact Go.by (fun t q => st1.trans q) (k T1 Lc v X1 hQ)
theorem own_callV (X : Stand p l e R s m args below meth c T locs cells slots) (hx : p.tables.exec = Jvm.exec) (hby : c.code = bs) (hZ : Z.Warmed39 s.vm) {own : String} {idx : Nat} {y : MethodName} {yb : ByteArray} {yml : Nat} {yrt : Option FieldType} {rm : Room} {as : Array Value} {Qc : Option Value → Heap → List Loc → Prop} {a : Addr} {C : String} (argsL : List Value) (has : (.ref a :: argsL).toArray = as) (hown : s.vm.findClass own = some m.cls) (w1 : (Jvm.Cond.methodLink own idx y).before a0 Z = true) (w5 : (Jvm.Cond.declares y).before a0 Z = true) (w6 : (Jvm.Cond.selects C y y).before a0 Z = true) (w2 : (Jvm.Cond.instanceMethod y).before a0 Z = true) (w3 : (Jvm.Cond.initialized y.cls).before a0 Z = true) (w4 : (Jvm.Cond.code y yb yml yrt).before a0 Z = true) (E : Exa Z h a C) (hy : y.cls ≠ "java/lang/invoke/MethodHandle" ∧ y.cls ≠ "java/lang/invoke/VarHandle") (hd : decode bs pc = .ok (.invokevirtual idx, 3)) (hM : Met1 l Z y yb yml yrt rm as h Qc) (eT : T.heap = h) {ps : List FieldType} {pr : Option FieldType} (hpd : parseMethodDescriptor y.desc = some ⟨ps, pr⟩) (hlen : argsL.length = ps.length) (hml : Ls.size = c.maxLocals) (hf : rm.frames + 1 ≤ R.frames) (W : Nat) (hW : (st.map fun v => v.category).sum = W) (hl : W + (yml + 11) + rm.locals ≤ R.locals) (hcl : cells + rm.cells ≤ R.cells) (hsl : slots + rm.slots ≤ R.slots) (pc' : Nat) (hp : pc + 3 = pc') (k : ∀ (T' : State) (L : List Loc) (v : Option Value), Stand p l e R s m args below meth c T' (locs ++ L) (cells + rm.cells) (slots + rm.slots) → Qc v T'.heap L → Go p e below G T' (mkF m pc' Ls (v.toList ++ st))) : Go p e below G T (mkF m pc Ls (argsL.reverse ++ .ref a :: st)) := by
  subst has
  obtain ⟨cq, kq, qa, qb, qc⟩ := isOf hZ eT E
  subst hp
  obtain ⟨v, vm₁, ⟨T1, L1, k1, n1⟩, -, X1, ⟨Lc, hQ, l1, y1, z1⟩, st1⟩ := X.virtualBack hx (y := y) (z := y) hown (mvT hZ w1) (mvT hZ w5) (notFace_of_selects (args := #[]) (mvT hZ w6)) (mvT hZ w6) (mvT hZ w2) hy (backOf (W := W) (hM []) hZ w4 w3 hf hl) qa qc (g := mkF m pc Ls (argsL.reverse ++ .ref a :: st)) rfl hml (Steps.refl _) (argsL := argsL) (rest := st) (lenOf hpd hlen) rfl (by show 2 * 0 + _ ≤ _; omega) (hb hby hd) (fun _ _ => ⟨rfl, eT, hcl, hsl⟩)
  dsimp only [Pt.U, Pt.locs, Pt.cells, Pt.slots] at X1 l1 y1 z1 st1 hQ
  subst l1 y1 z1
  exact Go.by (fun t q => st1.trans q) (k T1 Lc v X1 hQ)
theorem own_getF (X : Stand p l e R s m args below meth c T locs cells slots) (hx : p.tables.exec = Jvm.exec) (hby : c.code = bs) (hZ : Z.Warmed39 s.vm) {own R0 O n d host : String} {idx : Nat} {a : Addr} {v : Value} (hown : s.vm.findClass own = some m.cls) (w : (Jvm.Cond.fieldLink own idx R0 n d).before a0 Z = true ∨ (Jvm.Cond.fieldLinkNest own idx R0 n d host).before a0 Z = true) (via : Via Z R0 O n d) (eT : T.heap = h) (F : Fld Z h a O n d v) (hd : decode bs pc = .ok (.getfield idx, 3)) (pc' : Nat) (hp : pc + 3 = pc') (k : ∀ T', Stand p l e R s m args below meth c T' locs cells slots → T'.heap = h → Go p e below G T' (mkF m pc' Ls (v :: st))) : Go p e below G T (mkF m pc Ls (.ref a :: st)) := by
  subst hp
  obtain ⟨T1, X1, e1, st1⟩ := getF X hx hZ hown w via eT F (g := mkF m pc Ls (.ref a :: st)) rfl rfl (hb hby hd)
  exact Go.by (fun t q => st1 t q) (k T1 X1 e1)
theorem own_putF (X : Stand p l e R s m args below meth c T locs cells slots) (hx : p.tables.exec = Jvm.exec) (hby : c.code = bs) (hZ : Z.Warmed39 s.vm) {own R0 O n d host C : String} {idx kk : Nat} {a : Addr} {v old : Value} {ty : FieldType} (hown : s.vm.findClass own = some m.cls) (w : (Jvm.Cond.fieldLink own idx R0 n d).before a0 Z = true ∨ (Jvm.Cond.fieldLinkNest own idx R0 n d host).before a0 Z = true) (via : Via Z R0 O n d) (eT : T.heap = h) (F : Fld Z h a O n d old) (E : Exa Z h a C) (lw : (Jvm.Cond.lays C O n d).before a0 Z = true ∨ ((Jvm.Cond.laysFinal C O n d).before a0 Z = true ∧ own = O ∧ meth.name = "<init>")) (wi : (Jvm.Cond.instantiable C kk).before a0 Z = true) (hty : parseFieldDescriptor d = some ty) (hn : narrow ty v = v) (hf : fits ty v = true) (hd : decode bs pc = .ok (.putfield idx, 3)) (pc' : Nat) (hp : pc + 3 = pc') (k : ∀ T' h', Stand p l e R s m args below meth c T' (locs ++ [⟨a, Jvm.RoadKit.slotOf Z O n d⟩]) cells slots → T'.heap = h' → Wr h h' a (Jvm.RoadKit.slotOf Z O n d) v → Go p e below G T' (mkF m pc' Ls st)) : Go p e below G T (mkF m pc Ls (v :: .ref a :: st)) := by
  subst hp
  obtain ⟨T1, h1, X1, e1, W1, st1⟩ := putF X hx hZ hown w via eT F E lw wi hty hn hf (g := mkF m pc Ls (v :: .ref a :: st)) rfl rfl (hb hby hd)
  exact Go.by (fun t q => st1 t q) (k T1 h1 X1 e1 W1)
theorem own_new (X : Stand p l e R s m args below meth c T locs cells slots) (hx : p.tables.exec = Jvm.exec) (hby : c.code = bs) (hZ : Z.Warmed39 s.vm) {own C : String} {idx n : Nat} (hown : s.vm.findClass own = some m.cls) (w : (Jvm.Cond.classLink own idx C).before a0 Z = true) (wi : (Jvm.Cond.instantiable C n).before a0 Z = true) (wz : (Jvm.Cond.initialized C).before a0 Z = true) (eT : T.heap = h) (hd : decode bs pc = .ok (.new idx, 3)) (hcl : cells + 1 ≤ R.cells) (hsl : slots + n ≤ R.slots) (pc' : Nat) (hp : pc + 3 = pc') (k : ∀ T' h' (b : Addr), b = h.size → Stand p l e R s m args below meth c T' locs (cells + 1) (slots + n) → T'.heap = h' → Ext h h' → Exa Z h' b C → (∀ {O nm d : String} {ty : FieldType}, Laid Z a0 C O nm d → parseFieldDescriptor d = some ty → Fld Z h' b O nm d (defaultValue ty)) → Go p e below G T' (mkF m pc' Ls (.ref b :: st))) : Go p e below G T (mkF m pc Ls st) := by
  subst hp
  obtain ⟨T1, h1, X1, e1, E1, A1, D1, -, st1⟩ := newO X hx hZ hown w wi wz eT (g := mkF m pc Ls st) rfl (hb hby hd) hcl hsl
  exact Go.by (fun t q => st1 t q) (k T1 h1 _ rfl X1 e1 E1 A1 D1)
theorem own_initO (X : Stand p l e R s m args below meth c T locs cells slots) (hx : p.tables.exec = Jvm.exec) (hby : c.code = bs) (hZ : Z.Warmed39 s.vm) {own : String} {idx : Nat} {a : Addr} (hown : s.vm.findClass own = some m.cls) (w1 : (Jvm.Cond.methodLink own idx Lib.objectInit).before a0 Z = true) (w2 : (Jvm.Cond.instanceMethod Lib.objectInit).before a0 Z = true) (w3 : (Jvm.Cond.code Lib.objectInit ⟨#[0xb1]⟩ 1 none).before a0 Z = true) (eT : T.heap = h) (hml : Ls.size = c.maxLocals) (hd : decode bs pc = .ok (.invokespecial idx, 3)) (hf : 1 ≤ R.frames) (W : Nat) (hW : (st.map fun v => v.category).sum = W) (hl : W + 12 ≤ R.locals) (pc' : Nat) (hp : pc + 3 = pc') (k : ∀ T', Stand p l e R s m args below meth c T' locs cells slots → T'.heap = h → Go p e below G T' (mkF m pc' Ls st)) : Go p e below G T (mkF m pc Ls (.ref a :: st)) := by
  subst hp
  obtain ⟨T1, X1, e1, st1⟩ := initO X hx hZ hown w1 w2 w3 eT (g := mkF m pc Ls (.ref a :: st)) rfl hml rfl (hb hby hd) hf (W := W) (by show 2 * 0 + _ ≤ _; omega) hl
  exact Go.by (fun t q => st1 t q) (k T1 X1 e1)
theorem own_putFN (X : Stand p l e R s m args below meth c T locs cells slots) (hx : p.tables.exec = Jvm.exec) (hby : c.code = bs) (hZ : Z.Warmed39 s.vm) {own R0 O n d C : String} {idx kk : Nat} {a : Addr} {v v' old : Value} {ty : FieldType} (hown : s.vm.findClass own = some m.cls) (w : (Jvm.Cond.fieldLink own idx R0 n d).before a0 Z = true) (via : Via Z R0 O n d) (eT : T.heap = h) (F : Fld Z h a O n d old) (E : Exa Z h a C) (lw : (Jvm.Cond.lays C O n d).before a0 Z = true ∨ ((Jvm.Cond.laysFinal C O n d).before a0 Z = true ∧ own = O ∧ meth.name = "<init>")) (wi : (Jvm.Cond.instantiable C kk).before a0 Z = true) (hty : parseFieldDescriptor d = some ty) (hn : narrow ty v = v') (hf : fits ty v' = true) (hd : decode bs pc = .ok (.putfield idx, 3)) (pc' : Nat) (hp : pc + 3 = pc') (k : ∀ T' h', Stand p l e R s m args below meth c T' (locs ++ [⟨a, Jvm.RoadKit.slotOf Z O n d⟩]) cells slots → T'.heap = h' → Wr h h' a (Jvm.RoadKit.slotOf Z O n d) v' → Go p e below G T' (mkF m pc' Ls st)) : Go p e below G T (mkF m pc Ls (v :: .ref a :: st)) := by
  subst hp
  obtain ⟨T1, h1, X1, e1, W1, st1⟩ := putFN X hx hZ hown w via eT F E lw wi hty hn hf (g := mkF m pc Ls (v :: .ref a :: st)) rfl rfl (hb hby hd)
  exact Go.by (fun t q => st1 t q) (k T1 h1 X1 e1 W1)
theorem own_callP (X : Stand p l e R s m args below meth c T locs cells slots) (hx : p.tables.exec = Jvm.exec) (hby : c.code = bs) (hZ : Z.Warmed39 s.vm) {own : String} {idx : Nat} {y : MethodName} {yb : ByteArray} {yml : Nat} {yrt : Option FieldType} {rm : Room} {as : Array Value} {Qc : Option Value → Heap → List Loc → Prop} {a : Addr} {C : String} (argsL : List Value) (has : (.ref a :: argsL).toArray = as) (hown : s.vm.findClass own = some m.cls) (w1 : (Jvm.Cond.methodLink own idx y).before a0 Z = true) (w2 : (Jvm.Cond.instanceMethod y).before a0 Z = true) {kk : Nat} (w6 : (Jvm.Cond.instantiable y.cls kk).before a0 Z = true) (w7 : (Jvm.Cond.privateMethod y).before a0 Z = true) (w3 : (Jvm.Cond.initialized y.cls).before a0 Z = true) (w4 : (Jvm.Cond.code y yb yml yrt).before a0 Z = true) (E : Exa Z h a C) (hy : y.cls ≠ "java/lang/invoke/MethodHandle" ∧ y.cls ≠ "java/lang/invoke/VarHandle") (hd : decode bs pc = .ok (.invokevirtual idx, 3)) (hM : Met1 l Z y yb yml yrt rm as h Qc) (eT : T.heap = h) {ps : List FieldType} {pr : Option FieldType} (hpd : parseMethodDescriptor y.desc = some ⟨ps, pr⟩) (hlen : argsL.length = ps.length) (hml : Ls.size = c.maxLocals) (hf : rm.frames + 1 ≤ R.frames) (W : Nat) (hW : (st.map fun v => v.category).sum = W) (hl : W + (yml + 11) + rm.locals ≤ R.locals) (hcl : cells + rm.cells ≤ R.cells) (hsl : slots + rm.slots ≤ R.slots) (pc' : Nat) (hp : pc + 3 = pc') (k : ∀ (T' : State) (L : List Loc) (v : Option Value), Stand p l e R s m args below meth c T' (locs ++ L) (cells + rm.cells) (slots + rm.slots) → Qc v T'.heap L → Go p e below G T' (mkF m pc' Ls (v.toList ++ st))) : Go p e below G T (mkF m pc Ls (argsL.reverse ++ .ref a :: st)) := by
  subst has
  obtain ⟨cq, q1, q2⟩ := E.cell
  have pv := Cond.privateMethod_at (mvP hZ w7 (args := #[]))
  have sel : (Jvm.Cond.selects y.cls y y).before args s = true := by
    obtain ⟨c1, k1, r1, r2, -, r3, -, -⟩ := Cond.instantiable_spec (mvT (args := args) hZ w6)
    exact selects_self_of_private r1 r2 (Bool.or_eq_false_iff.mp r3).1 pv (mvT hZ w2) hy
  subst hp
  obtain ⟨v, vm₁, ⟨T1, L1, k1, n1⟩, -, X1, ⟨Lc, hQ, l1, y1, z1⟩, st1⟩ := X.privateBack hx (y := y) hown (mvT hZ w1) (mvT hZ w2) sel pv (mvT hZ w4) hy (backOf (W := W) (hM []) hZ w4 w3 hf hl) (g := mkF m pc Ls (argsL.reverse ++ .ref a :: st)) rfl hml (Steps.refl _) (a := a) (by rw [eT]; exact q1) q2 (argsL := argsL) (rest := st) (lenOf hpd hlen) rfl (by show 2 * 0 + _ ≤ _; omega) (hb hby hd) (fun _ _ => ⟨rfl, eT, hcl, hsl⟩)
  dsimp only [Pt.U, Pt.locs, Pt.cells, Pt.slots] at X1 l1 y1 z1 st1 hQ
  subst l1 y1 z1
  exact Go.by (fun t q => st1.trans q) (k T1 Lc v X1 hQ)
theorem own_instY (X : Stand p l e R s m args below meth c T locs cells slots) (hx : p.tables.exec = Jvm.exec) (hby : c.code = bs) (hZ : Z.Warmed39 s.vm) {own K : String} {idx : Nat} {a : Addr} (hown : s.vm.findClass own = some m.cls) (w : (Jvm.Cond.classLink own idx K).before a0 Z = true) (eT : T.heap = h) (F : Ins Z h a K true) (hd : decode bs pc = .ok (.instanceof idx, 3)) (pc' : Nat) (hp : pc + 3 = pc') (k : ∀ T', Stand p l e R s m args below meth c T' locs cells slots → T'.heap = h → Go p e below G T' (mkF m pc' Ls (.int 1 :: st))) : Go p e below G T (mkF m pc Ls (.ref a :: st)) := by
  subst hp
  obtain ⟨T1, X1, e1, st1⟩ := instY X hx hZ hown w eT F (g := mkF m pc Ls (.ref a :: st)) rfl rfl (hb hby hd)
  exact Go.by (fun t q => st1 t q) (k T1 X1 e1)
theorem own_instNo (X : Stand p l e R s m args below meth c T locs cells slots) (hx : p.tables.exec = Jvm.exec) (hby : c.code = bs) (hZ : Z.Warmed39 s.vm) {own K : String} {idx : Nat} {a : Addr} (hown : s.vm.findClass own = some m.cls) (w : (Jvm.Cond.classLink own idx K).before a0 Z = true) (eT : T.heap = h) {C : String} (E : Exa Z h a C) (F : ∃ c t, Z.vm.findClass C = some c ∧ Z.vm.findClass K = some t ∧ Z.vm.assignable c t = false) (hd : decode bs pc = .ok (.instanceof idx, 3)) (pc' : Nat) (hp : pc + 3 = pc') (k : ∀ T', Stand p l e R s m args below meth c T' locs cells slots → T'.heap = h → Go p e below G T' (mkF m pc' Ls (.int 0 :: st))) : Go p e below G T (mkF m pc Ls (.ref a :: st)) := by
  subst hp
  obtain ⟨T1, X1, e1, st1⟩ := instNo X hx hZ hown w eT E F (g := mkF m pc Ls (.ref a :: st)) rfl rfl (hb hby hd)
  exact Go.by (fun t q => st1 t q) (k T1 X1 e1)
theorem own_castY (X : Stand p l e R s m args below meth c T locs cells slots) (hx : p.tables.exec = Jvm.exec) (hby : c.code = bs) (hZ : Z.Warmed39 s.vm) {own K : String} {idx : Nat} {a : Addr} (hown : s.vm.findClass own = some m.cls) (w : (Jvm.Cond.classLink own idx K).before a0 Z = true) (eT : T.heap = h) (F : Ins Z h a K true) (hd : decode bs pc = .ok (.checkcast idx, 3)) (pc' : Nat) (hp : pc + 3 = pc') (k : ∀ T', Stand p l e R s m args below meth c T' locs cells slots → T'.heap = h → Go p e below G T' (mkF m pc' Ls (.ref a :: st))) : Go p e below G T (mkF m pc Ls (.ref a :: st)) := by
  subst hp
  obtain ⟨T1, X1, e1, st1⟩ := castY X hx hZ hown w eT F (g := mkF m pc Ls (.ref a :: st)) rfl rfl (hb hby hd)
  exact Go.by (fun t q => st1 t q) (k T1 X1 e1)
theorem own_instNull (X : Stand p l e R s m args below meth c T locs cells slots) (hx : p.tables.exec = Jvm.exec) (hby : c.code = bs) {idx : Nat} (hd : decode bs pc = .ok (.instanceof idx, 3)) (pc' : Nat) (hp : pc + 3 = pc') (k : Go p e below G T (mkF m pc' Ls (.int 0 :: st))) : Go p e below G T (mkF m pc Ls (.null :: st)) := by
  subst hp
  exact Go.by (fun t q => X.instanceofNull hx (g := mkF m pc Ls (.null :: st)) rfl rfl (hb hby hd) t q) k
theorem own_castNull (X : Stand p l e R s m args below meth c T locs cells slots) (hx : p.tables.exec = Jvm.exec) (hby : c.code = bs) {idx : Nat} (hd : decode bs pc = .ok (.checkcast idx, 3)) (pc' : Nat) (hp : pc + 3 = pc') (k : Go p e below G T (mkF m pc' Ls (.null :: st))) : Go p e below G T (mkF m pc Ls (.null :: st)) := by
  subst hp
  exact Go.by (fun t q => X.checkcastNull hx (g := mkF m pc Ls (.null :: st)) rfl rfl (hb hby hd) t q) k
theorem own_acmp (X : Stand p l e R s m args below meth c T locs cells slots) (hx : p.tables.exec = Jvm.exec) (hby : c.code = bs) {cd : ACond} {o : Int} {x y : Value} (same : Bool) (hd : decode bs pc = .ok (.if_acmp cd o, 3)) (h1 : x.isRef = true) (h2 : y.isRef = true) (hq : decide (x = y) = same) (ho : 0 ≤ (pc : Int) + o) (pc' : Nat) (hp : pc' = if acV cd same = true then ((pc : Int) + o).toNat else pc + 3) (k : Go p e below G T (mkF m pc' Ls st)) : Go p e below G T (mkF m pc Ls (y :: x :: st)) :=
  Go.by (fun t q => Jvm.RoadKit.acmp (g := mkF m pc Ls (y :: x :: st)) X hx rfl h1 h2 (pc0 := pc) (pc' := pc') (same := same) rfl (hb hby hd) rfl hq ho hp q) k
theorem own_getS (X : Stand p l e R s m args below meth c T locs cells slots) (hx : p.tables.exec = Jvm.exec) (hby : c.code = bs) (hZ : Z.Warmed39 s.vm) {own R0 O n d host : String} {idx : Nat} {v : Value} (hown : s.vm.findClass own = some m.cls) (w : (Jvm.Cond.fieldLink own idx R0 n d).before a0 Z = true ∨ (Jvm.Cond.fieldLinkNest own idx R0 n d host).before a0 Z = true) (via : Via Z R0 O n d) (eT : T.heap = h) (F : Sta Z h O n d v) (hd : decode bs pc = .ok (.getstatic idx, 3)) (pc' : Nat) (hp : pc + 3 = pc') (k : ∀ T', Stand p l e R s m args below meth c T' locs cells slots → T'.heap = h → Go p e below G T' (mkF m pc' Ls (v :: st))) : Go p e below G T (mkF m pc Ls st) := by
  subst hp
  obtain ⟨T1, X1, e1, st1⟩ := getS2 X hx hZ hown w via eT F (g := mkF m pc Ls st) rfl (hb hby hd)
  exact Go.by (fun t q => st1 t q) (k T1 X1 e1)
/-- an array of n places that hold what f says -/
def Afn (Z : State) (h : Heap) (a : Addr) (ty : FieldType) (n : Nat) (f : Nat → Value) : Prop := ∃ cl : Cell, Arr Z h a cl ty ∧ cl.slots.size = n ∧ ∀ i, i < n → cl.slots[i]? = some (f i) ∧ fits ty (f i) = true
def upd (f : Nat → Value) (i : Nat) (v : Value) : Nat → Value := fun j => if j = i then v else f j
theorem Afn.lt {a : Addr} {ty : FieldType} {n : Nat} {f : Nat → Value} (F : Afn Z h a ty n f) : a < h.size := by obtain ⟨cl, A, -⟩ := F; exact A.lt
theorem Afn.ext {h' : Heap} {a : Addr} {ty : FieldType} {n : Nat} {f : Nat → Value} (F : Afn Z h a ty n f) (E : Ext h h') : Afn Z h' a ty n f := by obtain ⟨cl, A, r⟩ := F; exact ⟨cl, A.ext E, r⟩
theorem Afn.other {h' : Heap} {a b : Addr} {sl : Nat} {v : Value} {ty : FieldType} {n : Nat} {f : Nat → Value} (F : Afn Z h b ty n f) (W : Wr h h' a sl v) (q : b ≠ a) : Afn Z h' b ty n f := by obtain ⟨cl, A, r⟩ := F; exact ⟨cl, A.other W q, r⟩
theorem Afn.keep {h' : Heap} {a : Addr} {ws : List Addr} {ty : FieldType} {n : Nat} {f : Nat → Value} (F : Afn Z h a ty n f) (K : Keep h h' ws) (q : a ∉ ws) : Afn Z h' a ty n f := by obtain ⟨cl, A, r⟩ := F; exact ⟨cl, ⟨K.2.1 a cl A.1 q, A.2⟩, r⟩
theorem Afn.to {a : Addr} {ty : FieldType} {n : Nat} {f f' : Nat → Value} (F : Afn Z h a ty n f) (q : ∀ i, i < n → f i = f' i) : Afn Z h a ty n f' := by obtain ⟨cl, A, S, H⟩ := F; exact ⟨cl, A, S, fun i hi => q i hi ▸ H i hi⟩
theorem Afn.new {a : Addr} {k : ClassId} {ty : FieldType} {z : Int32} {n : Nat} (A : Arr Z h a (newA k ty z) ty) (q : z.toNatClampNeg = n) : Afn Z h a ty n (fun _ => defaultValue ty) := by
  refine ⟨_, A, by rw [sz_new]; exact q, fun i hi => ⟨?_, by cases ty <;> rfl⟩⟩
  subst q
  show (Array.replicate z.toNatClampNeg (defaultValue ty))[i]? = _
  rw [Array.getElem?_replicate, if_pos hi]
theorem Afn.set {h' : Heap} {a : Addr} {ty : FieldType} {n i : Nat} {v : Value} {f : Nat → Value} (F : Afn Z h a ty n f) (W : Wr h h' a i v) (hi : i < n) (hv : fits ty v = true) : Afn Z h' a ty n (upd f i v) := by
  obtain ⟨cl, A, S, H⟩ := F
  refine ⟨cl.setSlot i v, A.same W, by rw [sz_set]; exact S, fun j hj => ?_⟩
  unfold upd
  by_cases q : j = i
  · subst q
    rw [if_pos rfl]
    refine ⟨?_, hv⟩
    show (cl.slots.setIfInBounds j v)[j]? = some v
    rw [Array.getElem?_setIfInBounds_self_of_lt (by rw [S]; exact hj)]
  · rw [if_neg q]
    refine ⟨?_, (H j hj).2⟩
    rw [← (H j hj).1]
    exact Array.getElem?_setIfInBounds_ne (Ne.symm q)
theorem own_in {j : Int32} {n : Nat} (h0 : 0 ≤ j.toInt) (h1 : j.toInt < n) : ¬ (j < 0 ∨ n ≤ j.toNatClampNeg) := by
  simp only [Int32.lt_iff_toInt_lt, Int32.toNatClampNeg, Int32.reduceToInt]; omega
/-- an array of ints (bytes, chars, shorts): n places that hold what g says -/
def Afi (Z : State) (h : Heap) (a : Addr) (ty : FieldType) (n : Nat) (g : Nat → Int32) : Prop := Afn Z h a ty n (fun i => .int (g i))
def updI (g : Nat → Int32) (i : Nat) (v : Int32) : Nat → Int32 := fun j => if j = i then v else g j
theorem Afi.lt {a : Addr} {ty : FieldType} {n : Nat} {g : Nat → Int32} (F : Afi Z h a ty n g) : a < h.size := Afn.lt F
theorem Afi.ext {h' : Heap} {a : Addr} {ty : FieldType} {n : Nat} {g : Nat → Int32} (F : Afi Z h a ty n g) (E : Ext h h') : Afi Z h' a ty n g := Afn.ext F E
theorem Afi.other {h' : Heap} {a b : Addr} {sl : Nat} {v : Value} {ty : FieldType} {n : Nat} {g : Nat → Int32} (F : Afi Z h b ty n g) (W : Wr h h' a sl v) (q : b ≠ a) : Afi Z h' b ty n g := Afn.other F W q
theorem Afi.keep {h' : Heap} {a : Addr} {ws : List Addr} {ty : FieldType} {n : Nat} {g : Nat → Int32} (F : Afi Z h a ty n g) (K : Keep h h' ws) (q : a ∉ ws) : Afi Z h' a ty n g := Afn.keep F K q
theorem Afi.to {a : Addr} {ty : FieldType} {n : Nat} {g g' : Nat → Int32} (F : Afi Z h a ty n g) (q : ∀ i, i < n → g i = g' i) : Afi Z h a ty n g' := Afn.to F fun i hi => congrArg Value.int (q i hi)
theorem Afi.set {h' : Heap} {a : Addr} {ty : FieldType} {n i : Nat} {v : Int32} {g : Nat → Int32} (F : Afi Z h a ty n g) (W : Wr h h' a i (.int v)) (hi : i < n) (hv : fits ty (.int v) = true) : Afi Z h' a ty n (updI g i v) :=
  (Afn.set F W hi hv).to fun j _ => by
    unfold upd updI
    by_cases q : j = i
    · rw [if_pos q, if_pos q]
    · rw [if_neg q, if_neg q]
theorem own_iaload (X : Stand p l e R s m args below meth c T locs cells slots) (hx : p.tables.exec = Jvm.exec) (hby : c.code = bs) (hZ : Z.Warmed39 s.vm) {a : Addr} {j : Int32} {n : Nat} {g : Nat → Int32} (v : Int32) (eT : T.heap = h) (F : Afi Z h a .int n g) (hj : ¬ (j < 0 ∨ n ≤ j.toNatClampNeg)) (hv : g j.toNatClampNeg = v) (hd : decode bs pc = .ok (.iaload, 1)) (pc' : Nat) (hp : pc + 1 = pc') (k : Go p e below G T (mkF m pc' Ls (.int v :: st))) : Go p e below G T (mkF m pc Ls (.int j :: .ref a :: st)) := by
  subst hp
  subst hv
  obtain ⟨cl, A, S, H⟩ := F
  subst S
  exact Go.by (fun t q => X.iaload hx (j := j) (v := .int (g j.toNatClampNeg)) (by rw [eT]; exact A.1) (State.isArrayOf_alike hZ.alike A.2.1) A.2.2 hj (H _ (Nat.lt_of_not_le fun q => hj (Or.inr q))).1 (g := mkF m pc Ls (.int j :: .ref a :: st)) rfl rfl (hb hby hd) t q) k
theorem own_baload (X : Stand p l e R s m args below meth c T locs cells slots) (hx : p.tables.exec = Jvm.exec) (hby : c.code = bs) (hZ : Z.Warmed39 s.vm) {a : Addr} {j : Int32} {n : Nat} {g : Nat → Int32} (v : Int32) (eT : T.heap = h) (F : Afi Z h a .byte n g) (hj : ¬ (j < 0 ∨ n ≤ j.toNatClampNeg)) (hv : g j.toNatClampNeg = v) (hd : decode bs pc = .ok (.baload, 1)) (pc' : Nat) (hp : pc + 1 = pc') (k : Go p e below G T (mkF m pc' Ls (.int v :: st))) : Go p e below G T (mkF m pc Ls (.int j :: .ref a :: st)) := by
  subst hp
  subst hv
  obtain ⟨cl, A, S, H⟩ := F
  subst S
  exact Go.by (fun t q => X.baloadBytes hx (j := j) (v := .int (g j.toNatClampNeg)) (by rw [eT]; exact A.1) (State.isArrayOf_alike hZ.alike A.2.1) A.2.2 hj (H _ (Nat.lt_of_not_le fun q => hj (Or.inr q))).1 (g := mkF m pc Ls (.int j :: .ref a :: st)) rfl rfl (hb hby hd) t q) k
theorem own_caload (X : Stand p l e R s m args below meth c T locs cells slots) (hx : p.tables.exec = Jvm.exec) (hby : c.code = bs) (hZ : Z.Warmed39 s.vm) {a : Addr} {j : Int32} {n : Nat} {g : Nat → Int32} (v : Int32) (eT : T.heap = h) (F : Afi Z h a .char n g) (hj : ¬ (j < 0 ∨ n ≤ j.toNatClampNeg)) (hv : g j.toNatClampNeg = v) (hd : decode bs pc = .ok (.caload, 1)) (pc' : Nat) (hp : pc + 1 = pc') (k : Go p e below G T (mkF m pc' Ls (.int v :: st))) : Go p e below G T (mkF m pc Ls (.int j :: .ref a :: st)) := by
  subst hp
  subst hv
  obtain ⟨cl, A, S, H⟩ := F
  subst S
  exact Go.by (fun t q => X.caload hx (j := j) (v := .int (g j.toNatClampNeg)) (by rw [eT]; exact A.1) (State.isArrayOf_alike hZ.alike A.2.1) A.2.2 hj (H _ (Nat.lt_of_not_le fun q => hj (Or.inr q))).1 (g := mkF m pc Ls (.int j :: .ref a :: st)) rfl rfl (hb hby hd) t q) k
theorem own_saload (X : Stand p l e R s m args below meth c T locs cells slots) (hx : p.tables.exec = Jvm.exec) (hby : c.code = bs) (hZ : Z.Warmed39 s.vm) {a : Addr} {j : Int32} {n : Nat} {g : Nat → Int32} (v : Int32) (eT : T.heap = h) (F : Afi Z h a .short n g) (hj : ¬ (j < 0 ∨ n ≤ j.toNatClampNeg)) (hv : g j.toNatClampNeg = v) (hd : decode bs pc = .ok (.saload, 1)) (pc' : Nat) (hp : pc + 1 = pc') (k : Go p e below G T (mkF m pc' Ls (.int v :: st))) : Go p e below G T (mkF m pc Ls (.int j :: .ref a :: st)) := by
  subst hp
  subst hv
  obtain ⟨cl, A, S, H⟩ := F
  subst S
  exact Go.by (fun t q => X.saload hx (j := j) (v := .int (g j.toNatClampNeg)) (by rw [eT]; exact A.1) (State.isArrayOf_alike hZ.alike A.2.1) A.2.2 hj (H _ (Nat.lt_of_not_le fun q => hj (Or.inr q))).1 (g := mkF m pc Ls (.int j :: .ref a :: st)) rfl rfl (hb hby hd) t q) k
theorem own_aaload (X : Stand p l e R s m args below meth c T locs cells slots) (hx : p.tables.exec = Jvm.exec) (hby : c.code = bs) (hZ : Z.Warmed39 s.vm) {a : Addr} {j : Int32} {n : Nat} {ty : FieldType} {f : Nat → Value} (v : Value) (eT : T.heap = h) (F : Afn Z h a ty n f) (hty : ty.isReference = true) (hj : ¬ (j < 0 ∨ n ≤ j.toNatClampNeg)) (hv : f j.toNatClampNeg = v) (hd : decode bs pc = .ok (.aaload, 1)) (pc' : Nat) (hp : pc + 1 = pc') (k : Go p e below G T (mkF m pc' Ls (v :: st))) : Go p e below G T (mkF m pc Ls (.int j :: .ref a :: st)) := by
  subst hp
  subst hv
  obtain ⟨cl, A, S, H⟩ := F
  subst S
  exact Go.by (fun t q => X.aaload hx (j := j) (v := f j.toNatClampNeg) (by rw [eT]; exact A.1) (State.isArrayOf_alike hZ.alike A.2.1) hty A.2.2 hj (H _ (Nat.lt_of_not_le fun q => hj (Or.inr q))).1 (g := mkF m pc Ls (.int j :: .ref a :: st)) rfl rfl (hb hby hd) t q) k
theorem own_arraylength (X : Stand p l e R s m args below meth c T locs cells slots) (hx : p.tables.exec = Jvm.exec) (hby : c.code = bs) (hZ : Z.Warmed39 s.vm) {a : Addr} {ty : FieldType} {n : Nat} {f : Nat → Value} (z : Int32) (eT : T.heap = h) (F : Afn Z h a ty n f) (hz : n.toInt32 = z) (hd : decode bs pc = .ok (.arraylength, 1)) (pc' : Nat) (hp : pc + 1 = pc') (k : Go p e below G T (mkF m pc' Ls (.int z :: st))) : Go p e below G T (mkF m pc Ls (.ref a :: st)) := by
  subst hp
  subst hz
  obtain ⟨cl, A, S, H⟩ := F
  subst S
  exact Go.by (fun t q => X.arraylength hx (by rw [eT]; exact A.1) (State.isArrayOf_alike hZ.alike A.2.1) (g := mkF m pc Ls (.ref a :: st)) rfl rfl (hb hby hd) t q) k
theorem own_iastore (X : Stand p l e R s m args below meth c T locs cells slots) (hx : p.tables.exec = Jvm.exec) (hby : c.code = bs) (hZ : Z.Warmed39 s.vm) {a : Addr} {j x : Int32} {n : Nat} {g : Nat → Int32} (eT : T.heap = h) (F : Afi Z h a .int n g) (hj : ¬ (j < 0 ∨ n ≤ j.toNatClampNeg)) (hd : decode bs pc = .ok (.iastore, 1)) (pc' : Nat) (hp : pc + 1 = pc') (k : ∀ T' h', Stand p l e R s m args below meth c T' (locs ++ [⟨a, j.toNatClampNeg⟩]) cells slots → T'.heap = h' → Wr h h' a j.toNatClampNeg (.int x) → Afi Z h' a .int n (updI g j.toNatClampNeg x) → Go p e below G T' (mkF m pc' Ls st)) : Go p e below G T (mkF m pc Ls (.int x :: .int j :: .ref a :: st)) := by
  subst hp
  have F0 := F
  obtain ⟨cl, A, S, H⟩ := F
  obtain ⟨T1, h1, X1, e1, W1, st1⟩ := stI X hx hZ eT A (j := j) (x := x) (by rw [S]; exact hj) (g := mkF m pc Ls (.int x :: .int j :: .ref a :: st)) rfl rfl (hb hby hd)
  exact Go.by (fun t q => st1 t q) (k T1 h1 X1 e1 W1 (F0.set W1 (Nat.lt_of_not_le fun q => hj (Or.inr q)) rfl))
theorem own_bastore (X : Stand p l e R s m args below meth c T locs cells slots) (hx : p.tables.exec = Jvm.exec) (hby : c.code = bs) (hZ : Z.Warmed39 s.vm) {a : Addr} {j x : Int32} {n : Nat} {g : Nat → Int32} (eT : T.heap = h) (F : Afi Z h a .byte n g) (hj : ¬ (j < 0 ∨ n ≤ j.toNatClampNeg)) (hd : decode bs pc = .ok (.bastore, 1)) (pc' : Nat) (hp : pc + 1 = pc') (k : ∀ T' h', Stand p l e R s m args below meth c T' (locs ++ [⟨a, j.toNatClampNeg⟩]) cells slots → T'.heap = h' → Wr h h' a j.toNatClampNeg (.int (nar .byte x)) → Afi Z h' a .byte n (updI g j.toNatClampNeg (nar .byte x)) → Go p e below G T' (mkF m pc' Ls st)) : Go p e below G T (mkF m pc Ls (.int x :: .int j :: .ref a :: st)) := by
  subst hp
  have F0 := F
  obtain ⟨cl, A, S, H⟩ := F
  obtain ⟨T1, h1, X1, e1, W1, st1⟩ := stB X hx hZ eT A (j := j) (x := x) (by rw [S]; exact hj) (g := mkF m pc Ls (.int x :: .int j :: .ref a :: st)) rfl rfl (hb hby hd)
  exact Go.by (fun t q => st1 t q) (k T1 h1 X1 e1 W1 (F0.set W1 (Nat.lt_of_not_le fun q => hj (Or.inr q)) (fits_nar_byte x)))
theorem own_castore (X : Stand p l e R s m args below meth c T locs cells slots) (hx : p.tables.exec = Jvm.exec) (hby : c.code = bs) (hZ : Z.Warmed39 s.vm) {a : Addr} {j x : Int32} {n : Nat} {g : Nat → Int32} (eT : T.heap = h) (F : Afi Z h a .char n g) (hj : ¬ (j < 0 ∨ n ≤ j.toNatClampNeg)) (hd : decode bs pc = .ok (.castore, 1)) (pc' : Nat) (hp : pc + 1 = pc') (k : ∀ T' h', Stand p l e R s m args below meth c T' (locs ++ [⟨a, j.toNatClampNeg⟩]) cells slots → T'.heap = h' → Wr h h' a j.toNatClampNeg (.int (nar .char x)) → Afi Z h' a .char n (updI g j.toNatClampNeg (nar .char x)) → Go p e below G T' (mkF m pc' Ls st)) : Go p e below G T (mkF m pc Ls (.int x :: .int j :: .ref a :: st)) := by
  subst hp
  have F0 := F
  obtain ⟨cl, A, S, H⟩ := F
  obtain ⟨T1, h1, X1, e1, W1, st1⟩ := stC X hx hZ eT A (j := j) (x := x) (by rw [S]; exact hj) (g := mkF m pc Ls (.int x :: .int j :: .ref a :: st)) rfl rfl (hb hby hd)
  exact Go.by (fun t q => st1 t q) (k T1 h1 X1 e1 W1 (F0.set W1 (Nat.lt_of_not_le fun q => hj (Or.inr q)) (fits_nar_char x)))
theorem own_sastore (X : Stand p l e R s m args below meth c T locs cells slots) (hx : p.tables.exec = Jvm.exec) (hby : c.code = bs) (hZ : Z.Warmed39 s.vm) {a : Addr} {j x : Int32} {n : Nat} {g : Nat → Int32} (eT : T.heap = h) (F : Afi Z h a .short n g) (hj : ¬ (j < 0 ∨ n ≤ j.toNatClampNeg)) (hd : decode bs pc = .ok (.sastore, 1)) (pc' : Nat) (hp : pc + 1 = pc') (k : ∀ T' h', Stand p l e R s m args below meth c T' (locs ++ [⟨a, j.toNatClampNeg⟩]) cells slots → T'.heap = h' → Wr h h' a j.toNatClampNeg (.int (nar .short x)) → Afi Z h' a .short n (updI g j.toNatClampNeg (nar .short x)) → Go p e below G T' (mkF m pc' Ls st)) : Go p e below G T (mkF m pc Ls (.int x :: .int j :: .ref a :: st)) := by
  subst hp
  have F0 := F
  obtain ⟨cl, A, S, H⟩ := F
  obtain ⟨T1, h1, X1, e1, W1, st1⟩ := stS X hx hZ eT A (j := j) (x := x) (by rw [S]; exact hj) (g := mkF m pc Ls (.int x :: .int j :: .ref a :: st)) rfl rfl (hb hby hd)
  exact Go.by (fun t q => st1 t q) (k T1 h1 X1 e1 W1 (F0.set W1 (Nat.lt_of_not_le fun q => hj (Or.inr q)) (fits_nar_short x)))
theorem own_aastore (X : Stand p l e R s m args below meth c T locs cells slots) (hx : p.tables.exec = Jvm.exec) (hby : c.code = bs) (hZ : Z.Warmed39 s.vm) {a : Addr} {j : Int32} {v : Value} {n : Nat} {ty : FieldType} {f : Nat → Value} (eT : T.heap = h) (F : Afn Z h a ty n f) (hj : ¬ (j < 0 ∨ n ≤ j.toNatClampNeg)) (hty : ty.isReference = true) (hfv : fits ty v = true) (So : Sto Z h a v) (hd : decode bs pc = .ok (.aastore, 1)) (pc' : Nat) (hp : pc + 1 = pc') (k : ∀ T' h', Stand p l e R s m args below meth c T' (locs ++ [⟨a, j.toNatClampNeg⟩]) cells slots → T'.heap = h' → Wr h h' a j.toNatClampNeg v → Afn Z h' a ty n (upd f j.toNatClampNeg v) → Go p e below G T' (mkF m pc' Ls st)) : Go p e below G T (mkF m pc Ls (v :: .int j :: .ref a :: st)) := by
  subst hp
  have F0 := F
  obtain ⟨cl, A, S, H⟩ := F
  obtain ⟨T1, h1, X1, e1, W1, st1⟩ := stR X hx hZ eT A (j := j) (by rw [S]; exact hj) hty So (g := mkF m pc Ls (v :: .int j :: .ref a :: st)) rfl rfl (hb hby hd)
  exact Go.by (fun t q => st1 t q) (k T1 h1 X1 e1 W1 (F0.set W1 (Nat.lt_of_not_le fun q => hj (Or.inr q)) hfv))
theorem own_newarray (X : Stand p l e R s m args below meth c T locs cells slots) (hx : p.tables.exec = Jvm.exec) (hby : c.code = bs) (hZ : Z.Warmed39 s.vm) {aty : ArrayType} {z : Int32} {n cap : Nat} {ad : String} (w : (Jvm.Cond.arrayClass (newarray.typeOf aty)).before a0 Z = true) (eT : T.heap = h) (hd : decode bs pc = .ok (.newarray aty, 2)) (hz : ¬ z < 0) (hn : z.toNatClampNeg = n) (hcap : n ≤ cap) (hb8 : cap * 8 ≤ 536870912) (hcl : cells + 1 ≤ R.cells) (hsl : slots + cap ≤ R.slots) (had : "[" ++ (newarray.typeOf aty).toString = ad) (pc' : Nat) (hp : pc + 2 = pc') (k : ∀ T' h' (b : Addr), b = h.size → Stand p l e R s m args below meth c T' locs (cells + 1) (slots + cap) → T'.heap = h' → Ext h h' → Afn Z h' b (newarray.typeOf aty) n (fun _ => defaultValue (newarray.typeOf aty)) → Exa Z h' b ad → Go p e below G T' (mkF m pc' Ls (.ref b :: st))) : Go p e below G T (mkF m pc Ls (.int z :: st)) := by
  subst hp
  obtain ⟨T1, h1, cA, X1, e1, E1, A1, Ex1, st1⟩ := newPE X hx hZ w eT (g := mkF m pc Ls (.int z :: st)) rfl (hb hby hd) rfl hz (cap := cap) (by rw [hn]; exact hcap) hb8 hcl hsl had
  exact Go.by (fun t q => st1 t q) (k T1 h1 _ rfl X1 e1 E1 (Afn.new A1 hn) Ex1)
theorem own_anewarray (X : Stand p l e R s m args below meth c T locs cells slots) (hx : p.tables.exec = Jvm.exec) (hby : c.code = bs) (hZ : Z.Warmed39 s.vm) {own C : String} {idx : Nat} {z : Int32} {n cap : Nat} {ad : String} (hown : s.vm.findClass own = some m.cls) (w1 : (Jvm.Cond.classLink own idx C).before a0 Z = true) (w2 : (Jvm.Cond.arrayOver (.object C)).before a0 Z = true) (eT : T.heap = h) (hd : decode bs pc = .ok (.anewarray idx, 3)) (hz : ¬ z < 0) (hn : z.toNatClampNeg = n) (hcap : n ≤ cap) (hb8 : cap * 8 ≤ 536870912) (hcl : cells + 1 ≤ R.cells) (hsl : slots + cap ≤ R.slots) (had : "[" ++ (FieldType.object C).toString = ad) (pc' : Nat) (hp : pc + 3 = pc') (k : ∀ T' h' (b : Addr) cA, b = h.size → Stand p l e R s m args below meth c T' locs (cells + 1) (slots + cap) → T'.heap = h' → Ext h h' → Afn Z h' b (.object C) n (fun _ => .null) → Exa Z h' b ad → Arr Z h' b (newA cA (.object C) z) (.object C) → Ovr Z cA C → Go p e below G T' (mkF m pc' Ls (.ref b :: st))) : Go p e below G T (mkF m pc Ls (.int z :: st)) := by
  subst hp
  obtain ⟨T1, h1, cA, X1, e1, E1, A1, Ex1, O1, st1⟩ := newRE X hx hZ hown w1 w2 eT (g := mkF m pc Ls (.int z :: st)) rfl (hb hby hd) rfl hz (cap := cap) (by rw [hn]; exact hcap) hb8 hcl hsl had
  exact Go.by (fun t q => st1 t q) (k T1 h1 _ cA rfl X1 e1 E1 (Afn.new A1 hn) Ex1 A1 O1)
theorem own_lremV (x y : Int64) : 0 ≤ x.toInt → 0 < y.toInt → 0 ≤ (x % y).toInt ∧ (x % y).toInt < y.toInt := by
  intro h1 h2
  rw [Int64.toInt_mod, (tr x.toInt y.toInt).1 h1]
  exact ⟨Int.emod_nonneg _ (by omega), Int.emod_lt_of_pos _ h2⟩
theorem own_NSroot {O K : String} {n : Nat} (w : (Jvm.Cond.noSuperclass O).before a0 Z = true) (wk : (Jvm.Cond.instantiable K n).before a0 Z = true) (hn : O ≠ K) : NS Z O K := by
  obtain ⟨c, k, h1, h2, h3, -, -⟩ := Cond.noSuperclass_spec w
  obtain ⟨t, k2, g1, -⟩ := Cond.instantiable_spec wk
  have ne := ids_ne h1 g1 hn
  refine ⟨c, t, h1, g1, fun fuel => ?_⟩
  cases fuel with
  | zero => rfl
  | succ f => simp [Vm.isSubclassAux, ne, h2, h3]
theorem own_NSno {C S K : String} {n : Nat} (w : (Jvm.Cond.superclass C S).before a0 Z = true) (wk : (Jvm.Cond.instantiable K n).before a0 Z = true) (nn : NS Z C K) (hn : C ≠ K) : ∃ c t, Z.vm.findClass C = some c ∧ Z.vm.findClass K = some t ∧ Z.vm.assignable c t = false := by
  obtain ⟨c, t, h0, g0, n3⟩ := nn
  obtain ⟨p, k, kp, h1, h2, h3, h4, h5, -, h7⟩ := Cond.superclass_spec h0 w
  obtain ⟨t', k', g1, g2, g5, g6, -, -⟩ := Cond.instantiable_spec wk
  cases g0.symm.trans g1
  have ne := ids_ne h0 g0 hn
  have g7 : k'.isInterface = false := (Bool.or_eq_false_iff.mp g6).1
  refine ⟨c, t, h0, g0, ?_⟩
  show Z.vm.assignableAux (255 + 1) c t = false
  simp [Vm.assignableAux, ne, h2, g2, h5, g5, g7, Vm.isSubclass, n3]
theorem own_ext0 {h0 : Heap} (K : Keep h0 h []) : Ext h0 h := ⟨K.1, fun a c q => K.2.1 a c q nin0⟩
/-- an array of references over the class C takes objects of C -/
def Orr (Z : State) (h : Heap) (b : Addr) (C : String) : Prop := ∃ (c : Cell) (cA : ClassId), Arr Z h b c (.object C) ∧ c.cls = cA ∧ Ovr Z cA C
theorem Orr.lt {b : Addr} {C : String} (F : Orr Z h b C) : b < h.size := by obtain ⟨c, cA, A, -⟩ := F; exact A.lt
theorem Orr.ext {h' : Heap} {b : Addr} {C : String} (F : Orr Z h b C) (E : Ext h h') : Orr Z h' b C := by obtain ⟨c, cA, A, r⟩ := F; exact ⟨c, cA, A.ext E, r⟩
theorem Orr.wr {h' : Heap} {a b : Addr} {C : String} {sl : Nat} {v : Value} (F : Orr Z h b C) (W : Wr h h' a sl v) : Orr Z h' b C := by
  obtain ⟨c, cA, A, q, O⟩ := F
  by_cases e : b = a
  · subst e; exact ⟨_, cA, A.same W, q, O⟩
  · exact ⟨c, cA, A.other W e, q, O⟩
theorem Orr.sto {b y : Addr} {C : String} (F : Orr Z h b C) (I : Ins Z h y C true) : Sto Z h b (.ref y) := by
  obtain ⟨c, cA, A, q, O⟩ := F
  exact Sto.ofV A q O I
theorem own_clone (X : Stand p l e R s m args below meth c T locs cells slots) (hx : p.tables.exec = Jvm.exec) (hby : c.code = bs) (hZ : Z.Warmed39 s.vm) {own ad : String} {idx : Nat} {a : Addr} {ty : FieldType} {n cap : Nat} {g : Nat → Int32} (hown : s.vm.findClass own = some m.cls) (w1 : (Jvm.Cond.methodLink own idx ⟨ad, "clone", "()Ljava/lang/Object;"⟩).before a0 Z = true) (w2 : (Jvm.Cond.sameMethod ad "java/lang/Object" "clone" "()Ljava/lang/Object;").before a0 Z = true) (w3 : (Jvm.Cond.native ⟨"java/lang/Object", "clone", "()Ljava/lang/Object;"⟩).before a0 Z = true)
    (w4 : (Jvm.Cond.instanceMethod ⟨"java/lang/Object", "clone", "()Ljava/lang/Object;"⟩).before a0 Z = true) (w5 : (Jvm.Cond.selects ad ⟨ad, "clone", "()Ljava/lang/Object;"⟩ ⟨"java/lang/Object", "clone", "()Ljava/lang/Object;"⟩).before a0 Z = true) (w6 : (Jvm.Cond.castable ad "java/lang/Cloneable").before a0 Z = true)
    (eT : T.heap = h) (F : Afi Z h a ty n g) (E : Exa Z h a ad) (hml : Ls.size = c.maxLocals) (hd : decode bs pc = .ok (.invokevirtual idx, 3)) (hf : 1 ≤ R.frames) (W : Nat) (hW : (st.map fun v => v.category).sum = W) (hl : W + 14 ≤ R.locals) (hcap : n ≤ cap) (hcl : cells + 1 ≤ R.cells) (hsl : slots + cap ≤ R.slots) (pc' : Nat) (hp : pc + 3 = pc')
    (k : ∀ T' h' (b : Addr), b = h.size → Stand p l e R s m args below meth c T' locs (cells + 1) (slots + cap) → T'.heap = h' → Ext h h' → Afi Z h' b ty n g → Exa Z h' b ad → Go p e below G T' (mkF m pc' Ls (.ref b :: st))) : Go p e below G T (mkF m pc Ls (.ref a :: st)) := by
  subst hp
  obtain ⟨cl, A, S, H⟩ := F
  have FC : FitC Z cl := fitC_of A fun i hi v hv => by rw [(H i (S ▸ hi)).1] at hv; cases hv; exact (H i (S ▸ hi)).2
  obtain ⟨T1, h1, X1, e1, E1, A1, Ex1, st1⟩ := cloneA X hx hZ hown w1 w2 w3 w4 w5 w6 eT A E FC (g := mkF m pc Ls (.ref a :: st)) rfl hml rfl (hb hby hd) hf (W := W) (by show 2 * 0 + _ ≤ _; omega) hl (cap := cap) (by rw [S]; exact hcap) hcl hsl
  exact Go.by (fun t q => st1 t q) (k T1 h1 _ rfl X1 e1 E1 ⟨_, A1, S, H⟩ Ex1)
theorem own_fld_start {t : Term} {C n d : String} {k : Int32} {a : Addr} (ev : t.eval args Z none [] Z = some (.ref a)) (hh : (Jvm.Cond.eq (.field t C n d) (.int k)).value args Z none Z [] = some true) : Fld Z Z.heap a C n d (.int k) := by
  obtain ⟨x, y, h1, h2, h3, h4⟩ := cmp_v (Or.inl hh)
  have h2' : y = .int k := (Option.some.inj h2).symm
  subst h2'
  obtain ⟨z, rfl⟩ := h4
  have q : z = k := by
    simp only [Cond.value, h1, h2] at hh
    exact of_decide_eq_true (Option.some.inj hh)
  subst q
  rw [fld_at ev] at h1
  exact Fld.start h1
end OwnGo

/-! ## bodies that may load String constants: the Stand is over the start with the tables of now, 'Since' says how they came to be -/
def FinW (s : State) (Q : Option Value → Heap → List Loc → Prop) (kc ks : Nat) (U' : State) (o : Outcome) : Prop :=
  ∃ v L, o = .returned v ∧ Q v U'.heap L ∧ ReturnedEndW s o U' L kc ks
def Met1W (l : Launch) (Z : State) (y : MethodName) (bytes : ByteArray) (maxL : Nat) (rt : Option FieldType) (rm : Room) (as : Array Value) (h0 : Heap) (Q : Option Value → Heap → List Loc → Prop) : Prop :=
  ∀ ws : List Jvm.Cond, MetFree l y (head1 (Jvm.Cond.code y bytes maxL rt :: ws) rm) (fun a U => a = as ∧ Z.Warmed39 U.vm ∧ U.heap = h0) (fun _ _ _ _ _ => True)
    (fun _ U o U' => ∃ v L, o = .returned v ∧ Q v U'.heap L ∧ ReturnedEndW U o U' L rm.cells rm.slots)
section OwnWide
variable {p : Program} {l : Launch} {e : Env} {R : Room} {s : State} {m : MethodId} {args : Array Value} {below : List Frame} {meth : Method} {c : Code} {T T' : State} {locs : List Loc} {cells slots : Nat} {G : State → Outcome → Prop} {Ls : Array Slot} {st : List Value} {pc : Nat} {bs : ByteArray} {Z : State} {a0 : Array Value} {h : Heap} {g g' : JFrame} {vm0 : Vm}
theorem own_met_ofW {Z : State} {y : MethodName} {bytes : ByteArray} {maxL : Nat} {rt : Option FieldType} {rm : Room} {as : Array Value} {h0 : Heap} {Q : Option Value → Heap → List Loc → Prop} {Ls0 : Array Slot} (hpl : plainFor y = true) (ef : ∀ m, entryFrame m as maxL = mkF m 0 Ls0 [])
    (body : ∀ (p : Program) (e : Env) (s : State) (m : MethodId) (below : List Frame) (meth : Method) (c : Code) (s₁ : State) (vm0 : Vm), Stand p l e rm (s.setVm vm0) m as below meth c s₁ [] 0 0 → p.tables.exec = Jvm.exec → c.code = bytes → c.maxLocals = maxL → Z.Warmed39 (s.setVm vm0).vm → (s.setVm vm0).vm.findClass y.cls = some m.cls → meth.name = y.name → meth.sig.returnType = rt → meth.locks = false → s₁.heap = h0 → s.Since vm0 0 → s.heap = h0 →
      Go p e below (FinW s Q rm.cells rm.slots) s₁ (mkF m 0 Ls0 [])) : Met1W l Z y bytes maxL rt rm as h0 Q := by
  intro ws
  refine MetFree.of_bodySF hpl hisR ?_
  intro p e s m args below meth c s₁ Bd hml0 hP hK
  obtain ⟨rfl, hZ, hh⟩ := hP
  have k := body p e s m below meth c s₁ s.vm (Stand.of_body Bd) Bd.exec Bd.bytes hml0 hZ (findClass_of_methodNamed Bd.named) (name_of_methodNamed Bd.named Bd.method).1 Bd.returns Bd.notSynchronized (by rw [← hh, Bd.state]; rfl) ((State.WarmedH.refl s).since 0) hh
  rw [← ef m] at k
  exact k
theorem own_leaveW {Q : Option Value → Heap → List Loc → Prop} {kc ks k0 : Nat} {v : Option Value} (X : Stand p l e R (s.setVm vm0) m args below meth c T locs cells slots) (hS : s.Since vm0 k0) (hk : k0 ≤ T.heap.size) (hv : meth.sig.returnType = none → v = none) (hlk : meth.locks = false) (hc : cells ≤ kc) (hs : slots ≤ ks) (hQ : Q v T.heap locs)
    (k : ∀ fs, (∀ (f : JFrame) (acts : List Action), f.method = m → f.locked = none → f.entered = [] → (doReturn e (T.setTop f) acts v).1 = T.setFrames fs) → Steps p.tables e below (T.setTop g) (T.setFrames fs)) : Go p e below (FinW s Q kc ks) T g := by
  obtain ⟨fs, hr, hrun, hended, r1, r2, r3, r4⟩ := X.leaveW hS hk (v := v) hv hlk
  exact ⟨_, _, k fs hr, hrun, hended, _, _, rfl, hQ, r1, r2, r3, r4.mono hc hs⟩
theorem own_retNW {Q : Option Value → Heap → List Loc → Prop} {kc ks k0 : Nat} {z z' : Int32} {t : FieldType} (X : Stand p l e R (s.setVm vm0) m args below meth c T locs cells slots) (hx : p.tables.exec = Jvm.exec) (hby : c.code = bs) (hS : s.Since vm0 k0) (hk : k0 ≤ T.heap.size) (hret : meth.sig.returnType = some t) (hlk : meth.locks = false) (ht : t = .boolean ∨ t = .byte ∨ t = .char ∨ t = .short) (hd : decode bs pc = .ok (.ireturn, 1)) (hc : cells ≤ kc) (hs : slots ≤ ks) (hn : nar t z = z') (hQ : Q (some (.int z')) T.heap locs) : Go p e below (FinW s Q kc ks) T (mkF m pc Ls (.int z :: st)) := by
  subst hn
  refine own_leaveW X hS hk (fun q => by rw [hret] at q; cases q) hlk hc hs hQ fun fs hr => ?_
  exact retN X hx hret ht (hb hby hd) hr
theorem own_retW {Q : Option Value → Heap → List Loc → Prop} {kc ks k0 : Nat} (X : Stand p l e R (s.setVm vm0) m args below meth c T locs cells slots) (hx : p.tables.exec = Jvm.exec) (hby : c.code = bs) (hS : s.Since vm0 k0) (hk : k0 ≤ T.heap.size) (hret : meth.sig.returnType = none) (hlk : meth.locks = false) (hd : decode bs pc = .ok (.return_, 1)) (hc : cells ≤ kc) (hs : slots ≤ ks) (hQ : Q none T.heap locs) : Go p e below (FinW s Q kc ks) T (mkF m pc Ls []) := by
  refine own_leaveW X hS hk (fun _ => rfl) hlk hc hs hQ fun fs hr => ?_
  exact X.returnOut hx hret (hb hby hd) hr
theorem own_strAtoms (hZ : Z.Warmed39 (s.setVm vm0).vm) (wS : ∀ a ∈ Bundle.stringAtoms, a.before a0 Z = true) : ∀ a ∈ Bundle.stringAtoms, a.before args (s.setVm vm0) = true := fun d hd => by
  have q := wS d hd
  simp only [Bundle.stringAtoms, List.mem_cons, List.not_mem_nil, or_false] at hd
  rcases hd with rfl | rfl | rfl | rfl | rfl | rfl | rfl
  · exact mv (s := s.setVm vm0) hZ q
  · exact mv (s := s.setVm vm0) hZ q
  · exact mvA (s := s.setVm vm0) hZ q
  · exact mv (s := s.setVm vm0) hZ q
  · exact mv (s := s.setVm vm0) hZ q
  · exact mv (s := s.setVm vm0) hZ q
  · exact mv (s := s.setVm vm0) hZ q
theorem own_ldcS (X : Stand p l e R (s.setVm vm0) m args below meth c T locs cells slots) (hx : p.tables.exec = Jvm.exec) (hby : c.code = bs) (hZ : Z.Warmed39 (s.setVm vm0).vm) {own text : String} {idx k0 : Nat} (hown : (s.setVm vm0).vm.findClass own = some m.cls) (w : (Jvm.Cond.stringLink own idx text).before a0 Z = true) (wS : ∀ a ∈ Bundle.stringAtoms, a.before a0 Z = true) (eT : T.heap = h) (hS : s.Since vm0 k0) (hk : k0 ≤ h.size) (hd : decode bs pc = .ok (.ldc idx, 2)) (n : Nat) (hn : 4 * text.toList.length ≤ n) (hbig : n ≤ 536870912) (hcl : cells + 2 ≤ R.cells) (hsl : slots + (n + 4) ≤ R.slots) (pc' : Nat) (hp : pc + 2 = pc')
    (k : ∀ (T' : State) (h' : Heap) (a : Addr) (vm1 : Vm) (k1 : Nat), Stand p l e R (s.setVm vm1) m args below meth c T' locs (cells + 2) (slots + (n + 4)) → T'.heap = h' → Ext h h' → s.Since vm1 k1 → k1 ≤ h'.size → Z.Warmed39 (s.setVm vm1).vm → (s.setVm vm1).vm.findClass own = some m.cls → Go p e below G T' (mkF m pc' Ls (.ref a :: st))) : Go p e below G T (mkF m pc Ls st) := by
  subst hp
  obtain ⟨a, T1, X1, hS1, -, hb1, -, st1⟩ := X.ldcStringCold hx (own := own) hown (mvS hZ w) (own_strAtoms hZ wS) (g := mkF m pc Ls st) rfl (hb hby hd) hn hbig hcl hsl
  subst eT
  have E := ext_of hb1
  exact Go.by (fun t q => st1 t q) (k T1 _ a T1.vm _ X1 rfl E (hS.trans hS1 (Nat.le_trans hk E.1)) (Nat.le_refl _) (State.Warmed39.trans (t := s.setVm vm0) hZ hS1.1) (by rw [show (s.setVm T1.vm).vm = T1.vm from rfl, hS1.1.alike.findClass]; exact hown))
theorem own_callCW (X : Stand p l e R (s.setVm vm0) m args below meth c T locs cells slots) (hx : p.tables.exec = Jvm.exec) (hby : c.code = bs) (hZ : Z.Warmed39 (s.setVm vm0).vm) {own : String} {idx : Nat} {y : MethodName} {yb : ByteArray} {yml k0 : Nat} {rm : Room} {as : Array Value} {Qc : Option Value → Heap → List Loc → Prop} {a : Addr} (argsL : List Value) (has : (.ref a :: argsL).toArray = as) (hy1 : y.name = "<init>") (hown : (s.setVm vm0).vm.findClass own = some m.cls) (hS : s.Since vm0 k0) (hk : k0 ≤ h.size) (w1 : (Jvm.Cond.methodLink own idx y).before a0 Z = true) (w2 : (Jvm.Cond.instanceMethod y).before a0 Z = true) (w3 : (Jvm.Cond.initialized y.cls).before a0 Z = true) (w4 : (Jvm.Cond.code y yb yml none).before a0 Z = true) (hy : y.cls ≠ "java/lang/invoke/MethodHandle" ∧ y.cls ≠ "java/lang/invoke/VarHandle") (hd : decode bs pc = .ok (.invokespecial idx, 3)) (hM : Met1W l Z y yb yml none rm as h Qc) (eT : T.heap = h) {ps : List FieldType} {pr : Option FieldType} (hpd : parseMethodDescriptor y.desc = some ⟨ps, pr⟩) (hlen : argsL.length = ps.length) (hml : Ls.size = c.maxLocals) (hf : rm.frames + 1 ≤ R.frames) (W : Nat) (hW : (st.map fun v => v.category).sum = W) (hl : W + (yml + 11) + rm.locals ≤ R.locals) (hcl : cells + rm.cells ≤ R.cells) (hsl : slots + rm.slots ≤ R.slots) (pc' : Nat) (hp : pc + 3 = pc') (k : ∀ (T' : State) (L : List Loc) (v : Option Value) (vm1 : Vm), Stand p l e R (s.setVm vm1) m args below meth c T' (locs ++ L) (cells + rm.cells) (slots + rm.slots) → s.Since vm1 T'.heap.size → Z.Warmed39 (s.setVm vm1).vm → (s.setVm vm1).vm.findClass own = some m.cls → Qc v T'.heap L → Go p e below G T' (mkF m pc' Ls (v.toList ++ st))) : Go p e below G T (mkF m pc Ls (argsL.reverse ++ .ref a :: st)) := by
  subst hp
  subst has
  obtain ⟨v, vm₁, ⟨T1, L1, k1, n1⟩, -, X1, hS1, g1, ⟨Lc, hQ, l1, y1, z1⟩, st1⟩ := X.specialBackS hx (y := y) hy1 hown (mvT hZ w1) (mvT hZ w2) (mvT hZ w4) hy (backOfS (W := W) (hM []) hZ w4 w3 hf hl) (g := mkF m pc Ls (argsL.reverse ++ .ref a :: st)) rfl hml (Steps.refl _) (a := a) (argsL := argsL) (rest := st) (lenOf hpd hlen) rfl (by show 2 * 0 + _ ≤ _; omega) (hb hby hd) (fun _ _ => ⟨rfl, eT, hcl, hsl⟩)
  dsimp only [Pt.U, Pt.locs, Pt.cells, Pt.slots] at X1 l1 y1 z1 st1 hQ hS1 g1
  subst l1 y1 z1
  obtain ⟨X2, hS2, hZ2, hown2⟩ := rebS hS (eT ▸ hk) X1 hS1 g1 hZ hown
  exact Go.by (fun t q => st1.trans q) (k T1 Lc v _ X2 hS2 hZ2 hown2 hQ)
end OwnWide

theorem d3_0 : decode jdk_31_method_11_code 0 = .ok (.aload_n 0, 1) := by decide +kernel
theorem d3_1 : decode jdk_31_method_11_code 1 = .ok (.ifnonnull 12, 3) := by decide +kernel
theorem d3_13 : decode jdk_31_method_11_code 13 = .ok (.aload_n 0, 1) := by decide +kernel
theorem d3_14 : decode jdk_31_method_11_code 14 = .ok (.areturn, 1) := by decide +kernel
theorem pn_3 : plainName "java/util/Objects" = true := by first | (simp [plainName, overriddenIn]; done) | decide +kernel
theorem d5_0 : decode jdk_42_method_55_code 0 = .ok (.aload_n 0, 1) := by decide +kernel
theorem d5_1 : decode jdk_42_method_55_code 1 = .ok (.getfield 9, 3) := by decide +kernel
theorem d5_4 : decode jdk_42_method_55_code 4 = .ok (.arraylength, 1) := by decide +kernel
theorem d5_5 : decode jdk_42_method_55_code 5 = .ok (.ifCond .ne 7, 3) := by decide +kernel
theorem d5_12 : decode jdk_42_method_55_code 12 = .ok (.iconst 0, 1) := by decide +kernel
theorem d5_13 : decode jdk_42_method_55_code 13 = .ok (.ireturn, 1) := by decide +kernel
theorem pn_5 : plainName "java/lang/String" = true := by first | (simp [plainName, overriddenIn]; done) | decide +kernel
theorem d7_0 : decode jdk_42_method_152_code 0 = .ok (.getstatic 38, 3) := by decide +kernel
theorem d7_3 : decode jdk_42_method_152_code 3 = .ok (.ifCond .eq 10, 3) := by decide +kernel
theorem d7_6 : decode jdk_42_method_152_code 6 = .ok (.aload_n 0, 1) := by decide +kernel
theorem d7_7 : decode jdk_42_method_152_code 7 = .ok (.getfield 15, 3) := by decide +kernel
theorem d7_10 : decode jdk_42_method_152_code 10 = .ok (.goto 4, 3) := by decide +kernel
theorem d7_14 : decode jdk_42_method_152_code 14 = .ok (.ireturn, 1) := by decide +kernel
theorem d6_0 : decode jdk_42_method_54_code 0 = .ok (.aload_n 0, 1) := by decide +kernel
theorem d6_1 : decode jdk_42_method_54_code 1 = .ok (.getfield 9, 3) := by decide +kernel
theorem d6_4 : decode jdk_42_method_54_code 4 = .ok (.arraylength, 1) := by decide +kernel
theorem d6_5 : decode jdk_42_method_54_code 5 = .ok (.aload_n 0, 1) := by decide +kernel
theorem d6_6 : decode jdk_42_method_54_code 6 = .ok (.invokevirtual 335, 3) := by decide +kernel
theorem d6_9 : decode jdk_42_method_54_code 9 = .ok (.ishr, 1) := by decide +kernel
theorem d6_10 : decode jdk_42_method_54_code 10 = .ok (.ireturn, 1) := by decide +kernel
theorem pd_0 : parseMethodDescriptor "()B" = some ⟨[], some .byte⟩ := by decide +kernel
theorem d9_0 : decode jdk_42_method_154_code 0 = .ok (.getstatic 38, 3) := by decide +kernel
theorem d9_3 : decode jdk_42_method_154_code 3 = .ok (.ifCond .eq 14, 3) := by decide +kernel
theorem d9_6 : decode jdk_42_method_154_code 6 = .ok (.aload_n 0, 1) := by decide +kernel
theorem d9_7 : decode jdk_42_method_154_code 7 = .ok (.getfield 15, 3) := by decide +kernel
theorem d9_10 : decode jdk_42_method_154_code 10 = .ok (.ifCond .ne 7, 3) := by decide +kernel
theorem d9_13 : decode jdk_42_method_154_code 13 = .ok (.iconst 1, 1) := by decide +kernel
theorem d9_14 : decode jdk_42_method_154_code 14 = .ok (.goto 4, 3) := by decide +kernel
theorem d9_18 : decode jdk_42_method_154_code 18 = .ok (.ireturn, 1) := by decide +kernel
theorem d12_0 : decode jdk_41_method_11_code 0 = .ok (.iload_n 0, 1) := by decide +kernel
theorem d12_1 : decode jdk_41_method_11_code 1 = .ok (.ifCond .lt 8, 3) := by decide +kernel
theorem d12_4 : decode jdk_41_method_11_code 4 = .ok (.iload_n 0, 1) := by decide +kernel
theorem d12_5 : decode jdk_41_method_11_code 5 = .ok (.iload_n 1, 1) := by decide +kernel
theorem d12_6 : decode jdk_41_method_11_code 6 = .ok (.if_icmp .lt 10, 3) := by decide +kernel
theorem d12_16 : decode jdk_41_method_11_code 16 = .ok (.iload_n 0, 1) := by decide +kernel
theorem d12_17 : decode jdk_41_method_11_code 17 = .ok (.ireturn, 1) := by decide +kernel
theorem pn_12 : plainName "jdk/internal/util/Preconditions" = true := by first | (simp [plainName, overriddenIn]; done) | decide +kernel
theorem d11_0 : decode jdk_42_method_155_code 0 = .ok (.iload_n 0, 1) := by decide +kernel
theorem d11_1 : decode jdk_42_method_155_code 1 = .ok (.iload_n 1, 1) := by decide +kernel
theorem d11_2 : decode jdk_42_method_155_code 2 = .ok (.getstatic 1053, 3) := by decide +kernel
theorem d11_5 : decode jdk_42_method_155_code 5 = .ok (.invokestatic 1059, 3) := by decide +kernel
theorem d11_8 : decode jdk_42_method_155_code 8 = .ok (.pop, 1) := by decide +kernel
theorem d11_9 : decode jdk_42_method_155_code 9 = .ok (.return_, 1) := by decide +kernel
theorem pd_8 : parseMethodDescriptor "(IILjava/util/function/BiFunction;)I" = some ⟨[.int, .int, (.object "java/util/function/BiFunction")], some .int⟩ := by decide +kernel
theorem d10_0 : decode jdk_43_method_2_code 0 = .ok (.iload_n 1, 1) := by decide +kernel
theorem d10_1 : decode jdk_43_method_2_code 1 = .ok (.aload_n 0, 1) := by decide +kernel
theorem d10_2 : decode jdk_43_method_2_code 2 = .ok (.arraylength, 1) := by decide +kernel
theorem d10_3 : decode jdk_43_method_2_code 3 = .ok (.invokestatic 9, 3) := by decide +kernel
theorem d10_6 : decode jdk_43_method_2_code 6 = .ok (.aload_n 0, 1) := by decide +kernel
theorem d10_7 : decode jdk_43_method_2_code 7 = .ok (.iload_n 1, 1) := by decide +kernel
theorem d10_8 : decode jdk_43_method_2_code 8 = .ok (.baload, 1) := by decide +kernel
theorem d10_9 : decode jdk_43_method_2_code 9 = .ok (.sipush 255, 3) := by decide +kernel
theorem d10_12 : decode jdk_43_method_2_code 12 = .ok (.iand, 1) := by decide +kernel
theorem d10_13 : decode jdk_43_method_2_code 13 = .ok (.i2c, 1) := by decide +kernel
theorem d10_14 : decode jdk_43_method_2_code 14 = .ok (.ireturn, 1) := by decide +kernel
theorem pn_10 : plainName "java/lang/StringLatin1" = true := by first | (simp [plainName, overriddenIn]; done) | decide +kernel
theorem pd_7 : parseMethodDescriptor "(II)V" = some ⟨[.int, .int], none⟩ := by decide +kernel
theorem d8_0 : decode jdk_42_method_56_code 0 = .ok (.aload_n 0, 1) := by decide +kernel
theorem d8_1 : decode jdk_42_method_56_code 1 = .ok (.invokevirtual 492, 3) := by decide +kernel
theorem d8_4 : decode jdk_42_method_56_code 4 = .ok (.ifCond .eq 12, 3) := by decide +kernel
theorem d8_7 : decode jdk_42_method_56_code 7 = .ok (.aload_n 0, 1) := by decide +kernel
theorem d8_8 : decode jdk_42_method_56_code 8 = .ok (.getfield 9, 3) := by decide +kernel
theorem d8_11 : decode jdk_42_method_56_code 11 = .ok (.iload_n 1, 1) := by decide +kernel
theorem d8_12 : decode jdk_42_method_56_code 12 = .ok (.invokestatic 495, 3) := by decide +kernel
theorem d8_15 : decode jdk_42_method_56_code 15 = .ok (.ireturn, 1) := by decide +kernel
theorem pd_3 : parseMethodDescriptor "()Z" = some ⟨[], some .boolean⟩ := by decide +kernel
theorem pd_12 : parseMethodDescriptor "([BI)C" = some ⟨[(.array .byte), .int], some .char⟩ := by decide +kernel
theorem d13_0 : decode prog_20_method_6_code 0 = .ok (.iload_n 0, 1) := by decide +kernel
theorem d13_1 : decode prog_20_method_6_code 1 = .ok (.bipush 97, 2) := by decide +kernel
theorem d13_3 : decode prog_20_method_6_code 3 = .ok (.if_icmp .lt 9, 3) := by decide +kernel
theorem d13_6 : decode prog_20_method_6_code 6 = .ok (.iload_n 0, 1) := by decide +kernel
theorem d13_7 : decode prog_20_method_6_code 7 = .ok (.bipush 122, 2) := by decide +kernel
theorem d13_9 : decode prog_20_method_6_code 9 = .ok (.if_icmp .le 45, 3) := by decide +kernel
theorem d13_12 : decode prog_20_method_6_code 12 = .ok (.iload_n 0, 1) := by decide +kernel
theorem d13_13 : decode prog_20_method_6_code 13 = .ok (.bipush 65, 2) := by decide +kernel
theorem d13_15 : decode prog_20_method_6_code 15 = .ok (.if_icmp .lt 9, 3) := by decide +kernel
theorem d13_18 : decode prog_20_method_6_code 18 = .ok (.iload_n 0, 1) := by decide +kernel
theorem d13_19 : decode prog_20_method_6_code 19 = .ok (.bipush 90, 2) := by decide +kernel
theorem d13_21 : decode prog_20_method_6_code 21 = .ok (.if_icmp .le 33, 3) := by decide +kernel
theorem d13_24 : decode prog_20_method_6_code 24 = .ok (.iload_n 0, 1) := by decide +kernel
theorem d13_25 : decode prog_20_method_6_code 25 = .ok (.bipush 48, 2) := by decide +kernel
theorem d13_27 : decode prog_20_method_6_code 27 = .ok (.if_icmp .lt 9, 3) := by decide +kernel
theorem d13_30 : decode prog_20_method_6_code 30 = .ok (.iload_n 0, 1) := by decide +kernel
theorem d13_31 : decode prog_20_method_6_code 31 = .ok (.bipush 57, 2) := by decide +kernel
theorem d13_33 : decode prog_20_method_6_code 33 = .ok (.if_icmp .le 21, 3) := by decide +kernel
theorem d13_36 : decode prog_20_method_6_code 36 = .ok (.iload_n 0, 1) := by decide +kernel
theorem d13_37 : decode prog_20_method_6_code 37 = .ok (.bipush 46, 2) := by decide +kernel
theorem d13_39 : decode prog_20_method_6_code 39 = .ok (.if_icmp .eq 15, 3) := by decide +kernel
theorem d13_42 : decode prog_20_method_6_code 42 = .ok (.iload_n 0, 1) := by decide +kernel
theorem d13_43 : decode prog_20_method_6_code 43 = .ok (.bipush 95, 2) := by decide +kernel
theorem d13_45 : decode prog_20_method_6_code 45 = .ok (.if_icmp .eq 9, 3) := by decide +kernel
theorem d13_48 : decode prog_20_method_6_code 48 = .ok (.iload_n 0, 1) := by decide +kernel
theorem d13_49 : decode prog_20_method_6_code 49 = .ok (.bipush 45, 2) := by decide +kernel
theorem d13_51 : decode prog_20_method_6_code 51 = .ok (.if_icmp .ne 7, 3) := by decide +kernel
theorem d13_54 : decode prog_20_method_6_code 54 = .ok (.iconst 1, 1) := by decide +kernel
theorem d13_55 : decode prog_20_method_6_code 55 = .ok (.goto 4, 3) := by decide +kernel
theorem d13_58 : decode prog_20_method_6_code 58 = .ok (.iconst 0, 1) := by decide +kernel
theorem d13_59 : decode prog_20_method_6_code 59 = .ok (.ireturn, 1) := by decide +kernel
theorem pn_13 : plainName "com/example/enroll/enroll/catalogue/Topic" = true := by first | (simp [plainName, overriddenIn]; done) | decide +kernel
theorem d4_0 : decode prog_20_method_5_code 0 = .ok (.aload_n 0, 1) := by decide +kernel
theorem d4_1 : decode prog_20_method_5_code 1 = .ok (.invokevirtual 36, 3) := by decide +kernel
theorem d4_4 : decode prog_20_method_5_code 4 = .ok (.ifCond .ne 13, 3) := by decide +kernel
theorem d4_7 : decode prog_20_method_5_code 7 = .ok (.aload_n 0, 1) := by decide +kernel
theorem d4_8 : decode prog_20_method_5_code 8 = .ok (.invokevirtual 42, 3) := by decide +kernel
theorem d4_11 : decode prog_20_method_5_code 11 = .ok (.sipush 249, 3) := by decide +kernel
theorem d4_14 : decode prog_20_method_5_code 14 = .ok (.if_icmp .le 20, 3) := by decide +kernel
theorem d4_34 : decode prog_20_method_5_code 34 = .ok (.iconst 0, 1) := by decide +kernel
theorem d4_35 : decode prog_20_method_5_code 35 = .ok (.istore_n 1, 1) := by decide +kernel
theorem d4_36 : decode prog_20_method_5_code 36 = .ok (.iload_n 1, 1) := by decide +kernel
theorem d4_37 : decode prog_20_method_5_code 37 = .ok (.aload_n 0, 1) := by decide +kernel
theorem d4_38 : decode prog_20_method_5_code 38 = .ok (.invokevirtual 42, 3) := by decide +kernel
theorem d4_41 : decode prog_20_method_5_code 41 = .ok (.if_icmp .ge 37, 3) := by decide +kernel
theorem d4_44 : decode prog_20_method_5_code 44 = .ok (.aload_n 0, 1) := by decide +kernel
theorem d4_45 : decode prog_20_method_5_code 45 = .ok (.iload_n 1, 1) := by decide +kernel
theorem d4_46 : decode prog_20_method_5_code 46 = .ok (.invokevirtual 47, 3) := by decide +kernel
theorem d4_49 : decode prog_20_method_5_code 49 = .ok (.istore_n 2, 1) := by decide +kernel
theorem d4_50 : decode prog_20_method_5_code 50 = .ok (.iload_n 2, 1) := by decide +kernel
theorem d4_51 : decode prog_20_method_5_code 51 = .ok (.invokestatic 51, 3) := by decide +kernel
theorem d4_54 : decode prog_20_method_5_code 54 = .ok (.ifCond .ne 18, 3) := by decide +kernel
theorem d4_72 : decode prog_20_method_5_code 72 = .ok (.iinc 1 1, 3) := by decide +kernel
theorem d4_75 : decode prog_20_method_5_code 75 = .ok (.goto (-39), 3) := by decide +kernel
theorem d4_78 : decode prog_20_method_5_code 78 = .ok (.return_, 1) := by decide +kernel
theorem pd_1 : parseMethodDescriptor "()I" = some ⟨[], some .int⟩ := by decide +kernel
theorem pd_5 : parseMethodDescriptor "(I)C" = some ⟨[.int], some .char⟩ := by decide +kernel
theorem pd_4 : parseMethodDescriptor "(C)Z" = some ⟨[.char], some .boolean⟩ := by decide +kernel
theorem d14_0 : decode prog_20_method_4_code 0 = .ok (.iload_n 1, 1) := by decide +kernel
theorem d14_1 : decode prog_20_method_4_code 1 = .ok (.ifCond .lt 15, 3) := by decide +kernel
theorem d14_4 : decode prog_20_method_4_code 4 = .ok (.iload_n 1, 1) := by decide +kernel
theorem d14_5 : decode prog_20_method_4_code 5 = .ok (.aload_n 0, 1) := by decide +kernel
theorem d14_6 : decode prog_20_method_4_code 6 = .ok (.getfield 32, 3) := by decide +kernel
theorem d14_9 : decode prog_20_method_4_code 9 = .ok (.if_icmp .ge 7, 3) := by decide +kernel
theorem d14_12 : decode prog_20_method_4_code 12 = .ok (.iconst 1, 1) := by decide +kernel
theorem d14_13 : decode prog_20_method_4_code 13 = .ok (.goto 4, 3) := by decide +kernel
theorem d14_16 : decode prog_20_method_4_code 16 = .ok (.iconst 0, 1) := by decide +kernel
theorem d14_17 : decode prog_20_method_4_code 17 = .ok (.ireturn, 1) := by decide +kernel
theorem d1_0 : decode prog_20_method_1_code 0 = .ok (.aload_n 0, 1) := by decide +kernel
theorem d1_1 : decode prog_20_method_1_code 1 = .ok (.invokespecial 1, 3) := by decide +kernel
theorem d1_4 : decode prog_20_method_1_code 4 = .ok (.aload_n 1, 1) := by decide +kernel
theorem d1_5 : decode prog_20_method_1_code 5 = .ok (.ldc 7, 2) := by decide +kernel
theorem d1_7 : decode prog_20_method_1_code 7 = .ok (.invokestatic 9, 3) := by decide +kernel
theorem d1_10 : decode prog_20_method_1_code 10 = .ok (.pop, 1) := by decide +kernel
theorem d1_11 : decode prog_20_method_1_code 11 = .ok (.aload_n 1, 1) := by decide +kernel
theorem d1_12 : decode prog_20_method_1_code 12 = .ok (.invokestatic 15, 3) := by decide +kernel
theorem d1_15 : decode prog_20_method_1_code 15 = .ok (.iload_n 2, 1) := by decide +kernel
theorem d1_16 : decode prog_20_method_1_code 16 = .ok (.iconst 1, 1) := by decide +kernel
theorem d1_17 : decode prog_20_method_1_code 17 = .ok (.if_icmp .lt 10, 3) := by decide +kernel
theorem d1_20 : decode prog_20_method_1_code 20 = .ok (.iload_n 2, 1) := by decide +kernel
theorem d1_21 : decode prog_20_method_1_code 21 = .ok (.sipush 10000, 3) := by decide +kernel
theorem d1_24 : decode prog_20_method_1_code 24 = .ok (.if_icmp .le 17, 3) := by decide +kernel
theorem d1_41 : decode prog_20_method_1_code 41 = .ok (.aload_n 0, 1) := by decide +kernel
theorem d1_42 : decode prog_20_method_1_code 42 = .ok (.aload_n 1, 1) := by decide +kernel
theorem d1_43 : decode prog_20_method_1_code 43 = .ok (.putfield 29, 3) := by decide +kernel
theorem d1_46 : decode prog_20_method_1_code 46 = .ok (.aload_n 0, 1) := by decide +kernel
theorem d1_47 : decode prog_20_method_1_code 47 = .ok (.iload_n 2, 1) := by decide +kernel
theorem d1_48 : decode prog_20_method_1_code 48 = .ok (.putfield 32, 3) := by decide +kernel
theorem d1_51 : decode prog_20_method_1_code 51 = .ok (.return_, 1) := by decide +kernel
theorem pd_9 : parseMethodDescriptor "(Ljava/lang/Object;Ljava/lang/String;)Ljava/lang/Object;" = some ⟨[(.object "java/lang/Object"), (.object "java/lang/String")], some (.object "java/lang/Object")⟩ := by decide +kernel
theorem pd_10 : parseMethodDescriptor "(Ljava/lang/String;)V" = some ⟨[(.object "java/lang/String")], none⟩ := by decide +kernel
theorem pn_0 : plainName "com/example/enroll/enroll/catalogue/TopicHasPartitionPinLaw" = true := by first | (simp [plainName, overriddenIn]; done) | decide +kernel
theorem pd_11 : parseMethodDescriptor "(Ljava/lang/String;I)V" = some ⟨[(.object "java/lang/String"), .int], none⟩ := by decide +kernel
theorem pd_6 : parseMethodDescriptor "(I)Z" = some ⟨[.int], some .boolean⟩ := by decide +kernel
section OwnCopy
variable {p : Program} {l : Launch} {e : Env} {R : Room} {s : State} {m : MethodId} {args : Array Value} {below : List Frame} {meth : Method} {c : Code} {T T' : State} {locs : List Loc} {cells slots : Nat} {G : State → Outcome → Prop} {Ls : Array Slot} {st : List Value} {pc : Nat} {bs : ByteArray} {Z : State} {a0 : Array Value} {h : Heap}
theorem own_ofN {n : Nat} (hn : n < 2147483648) : (Int32.ofNat n).toNatClampNeg = n ∧ ¬ Int32.ofNat n < 0 ∧ (Int32.ofNat n).toInt = n := by
  have h1 : (Int32.ofNat n).toInt = n := Int32.toInt_ofNat_of_lt hn
  refine ⟨Int32.toNatClampNeg_ofNat_of_lt hn, ?_, h1⟩
  rw [Int32.lt_iff_toInt_lt, h1]
  have h2 : (0 : Int32).toInt = 0 := rfl
  omega
theorem own_gd {n i : Nat} {f : Nat → Value} {d : Value} (hi : i < n) : ((List.range n).map f).getD i d = f i := by
  rw [List.getD_eq_getElem?_getD, List.getElem?_map, List.getElem?_range hi]
  rfl
theorem own_toArv {a : Addr} {ty : FieldType} {n : Nat} {f : Nat → Value} (F : Afn Z h a ty n f) (hn : n < 2147483648) : ∃ k, Arv Z h a k ty (Int32.ofNat n) ((List.range n).map f) .null := by
  obtain ⟨cl, A, S, H⟩ := F
  refine ⟨cl.cls, cl, A, rfl, by rw [S, (own_ofN hn).1], (own_ofN hn).2.1, fun i hi => ?_, fun i hi => ?_⟩
  · rw [own_gd (S ▸ hi)]; exact (H i (S ▸ hi)).1
  · rw [own_gd (S ▸ hi)]; exact (H i (S ▸ hi)).2
theorem own_ofArv {a : Addr} {ty : FieldType} {k : ClassId} {z : Int32} {vs : List Value} {d : Value} (F : Arv Z h a k ty z vs d) {n : Nat} (q : z.toNatClampNeg = n) : Afn Z h a ty n (fun i => vs.getD i d) := by
  obtain ⟨cl, A, -, S, -, H, Gf⟩ := F
  subst q
  exact ⟨cl, A, S, fun i hi => ⟨H i (by rw [S]; exact hi), Gf i (by rw [S]; exact hi)⟩⟩
/-- what stands in an array behind a copy of k first places -/
def own_cp (f : Nat → Int32) (k : Nat) : Nat → Int32 := fun i => if i < k then f i else 0
theorem own_acopy (X : Stand p l e R s m args below meth c T locs cells slots) (hx : p.tables.exec = Jvm.exec) (hby : c.code = bs) (hZ : Z.Warmed39 s.vm) {own : String} {idx : Nat} {a b : Addr} {ty : FieldType} {n n' : Nat} {g : Nat → Int32} {nn : Int32} {n0 : Nat} (hown : s.vm.findClass own = some m.cls)
    (w1 : (Jvm.Cond.methodLink own idx Jvm.Stand.acN).before a0 Z = true) (w2 : (Jvm.Cond.native Jvm.Stand.acN).before a0 Z = true) (w3 : (Jvm.Cond.static Jvm.Stand.acN).before a0 Z = true) (w4 : (Jvm.Cond.initialized "java/lang/System").before a0 Z = true) (eT : T.heap = h)
    (A : Afi Z h a ty n g) (B : Afi Z h b ty n' (fun _ => 0)) (hty : refKind ty = false) (hn : n < 2147483648) (hn' : n' < 2147483648) (h0 : ¬ nn < 0) (h4 : nn.toNatClampNeg ≤ n) (h5 : nn.toNatClampNeg ≤ n') (N : Fr n0 locs) (ge : n0 ≤ b) (hml : Ls.size = c.maxLocals) (hd : decode bs pc = .ok (.invokestatic idx, 3)) (hf : 1 ≤ R.frames) (W : Nat) (hW : (st.map fun v => v.category).sum = W) (hlo : W + 18 ≤ R.locals) (pc' : Nat) (hp : pc + 3 = pc')
    (k : ∀ T' h' L, Stand p l e R s m args below meth c T' L cells slots → T'.heap = h' → Fr n0 L → Keep h h' [b] → Afi Z h' b ty n' (own_cp g nn.toNatClampNeg) → Go p e below G T' (mkF m pc' Ls st)) : Go p e below G T (mkF m pc Ls (.int nn :: .int 0 :: .ref b :: .int 0 :: .ref a :: st)) := by
  subst hp
  obtain ⟨ka, A1⟩ := own_toArv A hn
  obtain ⟨kb, B1⟩ := own_toArv B hn'
  have z0 : (0 : Int32).toNatClampNeg = 0 := rfl
  obtain ⟨T1, h1, L1, X1, e1, N1, K1, C1, st1⟩ := cpA X hx hZ hown w1 w2 w3 w4 eT (sp := 0) (dp := 0) (nn := nn) A1 B1 (Or.inl ⟨rfl, hty⟩) (by decide) (by decide) h0 (by rw [z0, (own_ofN hn).1]; omega) (by rw [z0, (own_ofN hn').1]; omega) rfl (by rw [z0, List.length_map, List.length_range]; omega) N ge (g := mkF m pc Ls (.int nn :: .int 0 :: .ref b :: .int 0 :: .ref a :: st)) rfl hml (rest := st) rfl (hb hby hd) hf (W := W) (by show 2 * 0 + _ ≤ _; omega) (by show W + (5 + 2 + 11) ≤ _; omega)
  refine Go.by (fun t q => st1 t q) (k T1 h1 L1 X1 e1 N1 K1 ?_)
  refine (own_ofArv C1 (own_ofN hn').1).to fun i hi => ?_
  rw [z0]
  show List.getD _ i _ = Value.int (own_cp g nn.toNatClampNeg i)
  unfold own_cp
  rw [List.take_zero, List.nil_append, Nat.zero_add, List.getD_eq_getElem?_getD]
  by_cases q : i < nn.toNatClampNeg
  · rw [if_pos q, List.getElem?_append_left (by rw [List.length_map, List.length_range]; exact q), List.getElem?_map, List.getElem?_range q]
    show List.getD _ (0 + i) _ = _
    rw [Nat.zero_add, own_gd (by omega)]
  · rw [if_neg q, List.getElem?_append_right (by rw [List.length_map, List.length_range]; omega), List.length_map, List.length_range, List.getElem?_drop, List.getElem?_map, List.getElem?_range (by omega)]
    rfl
end OwnCopy

theorem own_wS {Z : State} {a0 : Array Value} (hw : ∀ d ∈ tables_1, d.before a0 Z = true) : ∀ a ∈ Bundle.stringAtoms, a.before a0 Z = true := fun d hd => by
  simp only [Bundle.stringAtoms, List.mem_cons, List.not_mem_nil, or_false] at hd
  rcases hd with rfl | rfl | rfl | rfl | rfl | rfl | rfl
  · exact (hw _ (List.mem_of_getElem? (i := 5) rfl))
  · exact (hw _ (List.mem_of_getElem? (i := 6) rfl))
  · exact (hw _ (List.mem_of_getElem? (i := 7) rfl))
  · exact (hw _ (List.mem_of_getElem? (i := 8) rfl))
  · exact (hw _ (List.mem_of_getElem? (i := 9) rfl))
  · exact (hw _ (List.mem_of_getElem? (i := 10) rfl))
  · exact (hw _ (List.mem_of_getElem? (i := 11) rfl))
theorem ef_3 (a1 : Addr) (a2 : Addr) (m : MethodId) : entryFrame m #[(.ref a1), (.ref a2)] 2 = mkF m 0 #[.val (.ref a1), .val (.ref a2)] [] := by first | (simp [entryFrame, mkF, argsToLocals, Value.category]; done) | rfl
def Q3 (Z : State) (a1 : Addr) (a2 : Addr) (h0 : Heap) (n0 : Nat) (v : Option Value) (h : Heap) (L : List Loc) : Prop := v = some (.ref a1) ∧ Fr n0 L ∧ h = h0
set_option maxRecDepth 65536 in
set_option maxHeartbeats 40000000 in
theorem rm3 (l : Launch) (Z : State) (a0 : Array Value) (hw : ∀ d ∈ tables_1, d.before a0 Z = true) (a1 : Addr) (a2 : Addr) (h0 : Heap) (n0 : Nat) (Zs : n0 ≤ h0.size) :
    Met1 l Z (⟨"java/util/Objects", "requireNonNull", "(Ljava/lang/Object;Ljava/lang/String;)Ljava/lang/Object;"⟩ : MethodName) jdk_31_method_11_code 2 (some (.object "java/lang/Object")) ({ frames := 0, cells := 0, slots := 0, locals := 0 } : Room) #[(.ref a1), (.ref a2)] h0 (Q3 Z a1 a2 h0 n0) := by
  refine own_met_of (plainFor_of_name pn_3) (ef_3 a1 a2) ?_
  intro p e s m below meth c s₁ X hx hby hml hZ hown hnm hret hlk eT
  have hown : s.vm.findClass "java/util/Objects" = some m.cls := hown
  have N := Fr.nil n0
  refine own_aloadN X hx hby (.ref a1) d3_0 rfl rfl 1 rfl ?_
  refine own_ifnonnullY X hx hby d3_1 13 (by decide) ?_
  refine own_aloadN X hx hby (.ref a1) d3_13 rfl rfl 14 rfl ?_
  refine own_retA X hx hby hret hlk rfl rfl rfl d3_14 (by decide) (by decide) ?_
  rw [eT]
  exact ⟨rfl, N, rfl⟩
theorem ef_5 (a1 : Addr) (m : MethodId) : entryFrame m #[(.ref a1)] 1 = mkF m 0 #[.val (.ref a1)] [] := by first | (simp [entryFrame, mkF, argsToLocals, Value.category]; done) | rfl
def Q5 (Z : State) (a1 : Addr) (r1 : Addr) (ar_r1 : Nat → Int32) (h0 : Heap) (n0 : Nat) (v : Option Value) (h : Heap) (L : List Loc) : Prop := v = some (.int (0 : Int32)) ∧ Fr n0 L ∧ h = h0
set_option maxRecDepth 65536 in
set_option maxHeartbeats 40000000 in
theorem rm5 (l : Launch) (Z : State) (a0 : Array Value) (hw : ∀ d ∈ tables_1, d.before a0 Z = true) (a1 : Addr) (r1 : Addr) (ar_r1 : Nat → Int32) (h0 : Heap) (n0 : Nat) (Zs : n0 ≤ h0.size) (A_r1 : Afi Z h0 r1 .byte 1 ar_r1) (F_value_a1 : Fld Z h0 a1 "java/lang/String" "value" "[B" (.ref r1)) :
    Met1 l Z (⟨"java/lang/String", "isEmpty", "()Z"⟩ : MethodName) jdk_42_method_55_code 1 (some .boolean) ({ frames := 0, cells := 0, slots := 0, locals := 0 } : Room) #[(.ref a1)] h0 (Q5 Z a1 r1 ar_r1 h0 n0) := by
  refine own_met_of (plainFor_of_name pn_5) (ef_5 a1) ?_
  intro p e s m below meth c s₁ X hx hby hml hZ hown hnm hret hlk eT
  have hown : s.vm.findClass "java/lang/String" = some m.cls := hown
  have N := Fr.nil n0
  refine own_aloadN X hx hby (.ref a1) d5_0 rfl rfl 1 rfl ?_
  refine own_getF X hx hby hZ hown (host := "") (Or.inl (hw _ (List.mem_of_getElem? (i := 31) rfl))) Via.refl eT F_value_a1 d5_1 4 rfl ?_
  intro T1 X eT
  refine own_arraylength X hx hby hZ (1 : Int32) eT A_r1 rfl d5_4 5 rfl ?_
  have c5 : ¬ (1 : Int32) = (0 : Int32) := by decide
  refine own_if_ne X hx hby d5_5 12 8 (by decide) rfl (fun _ => ?_) (fun q => absurd q c5)
  refine own_iconst X hx hby (0 : Int32) d5_12 rfl 13 rfl ?_
  refine own_retN X hx hby hret hlk (t := .boolean) (z' := (0 : Int32)) (by simp) d5_13 (by decide) (by decide) rfl ?_
  rw [eT]
  exact ⟨rfl, N, rfl⟩
theorem ef_7 (a1 : Addr) (m : MethodId) : entryFrame m #[(.ref a1)] 1 = mkF m 0 #[.val (.ref a1)] [] := by first | (simp [entryFrame, mkF, argsToLocals, Value.category]; done) | rfl
def Q7 (Z : State) (a1 : Addr) (u_COMPACT_STRINGS : Int32) (h0 : Heap) (n0 : Nat) (v : Option Value) (h : Heap) (L : List Loc) : Prop := v = some (.int (0 : Int32)) ∧ Fr n0 L ∧ h = h0
set_option maxRecDepth 65536 in
set_option maxHeartbeats 40000000 in
theorem rm7 (l : Launch) (Z : State) (a0 : Array Value) (hw : ∀ d ∈ tables_1, d.before a0 Z = true) (a1 : Addr) (u_COMPACT_STRINGS : Int32) (h0 : Heap) (n0 : Nat) (Zs : n0 ≤ h0.size) (hcs : ¬ u_COMPACT_STRINGS = (0 : Int32)) (S_COMPACT_STRINGS : Sta Z h0 "java/lang/String" "COMPACT_STRINGS" "Z" (.int u_COMPACT_STRINGS)) (F_coder_a1 : Fld Z h0 a1 "java/lang/String" "coder" "B" (.int (0 : Int32))) :
    Met1 l Z (⟨"java/lang/String", "coder", "()B"⟩ : MethodName) jdk_42_method_152_code 1 (some .byte) ({ frames := 0, cells := 0, slots := 0, locals := 0 } : Room) #[(.ref a1)] h0 (Q7 Z a1 u_COMPACT_STRINGS h0 n0) := by
  refine own_met_of (plainFor_of_name pn_5) (ef_7 a1) ?_
  intro p e s m below meth c s₁ X hx hby hml hZ hown hnm hret hlk eT
  have hown : s.vm.findClass "java/lang/String" = some m.cls := hown
  have N := Fr.nil n0
  refine own_getS X hx hby hZ hown (host := "") (Or.inl (hw _ (List.mem_of_getElem? (i := 42) rfl))) Via.refl eT S_COMPACT_STRINGS d7_0 3 rfl ?_
  intro T0 X eT
  have c3 : ¬ u_COMPACT_STRINGS = (0 : Int32) := hcs
  refine own_if_eq X hx hby d7_3 13 6 (by decide) rfl (fun q => absurd q c3) (fun _ => ?_)
  refine own_aloadN X hx hby (.ref a1) d7_6 rfl rfl 7 rfl ?_
  refine own_getF X hx hby hZ hown (host := "") (Or.inl (hw _ (List.mem_of_getElem? (i := 43) rfl))) Via.refl eT F_coder_a1 d7_7 10 rfl ?_
  intro T7 X eT
  refine own_goto X hx hby d7_10 14 (by decide) ?_
  refine own_retN X hx hby hret hlk (t := .byte) (z' := (0 : Int32)) (by simp) d7_14 (by decide) (by decide) rfl ?_
  rw [eT]
  exact ⟨rfl, N, rfl⟩
theorem ef_6 (a1 : Addr) (m : MethodId) : entryFrame m #[(.ref a1)] 1 = mkF m 0 #[.val (.ref a1)] [] := by first | (simp [entryFrame, mkF, argsToLocals, Value.category]; done) | rfl
def Q6 (Z : State) (a1 : Addr) (r1 : Addr) (ar_r1 : Nat → Int32) (u_COMPACT_STRINGS : Int32) (h0 : Heap) (n0 : Nat) (v : Option Value) (h : Heap) (L : List Loc) : Prop := v = some (.int (1 : Int32)) ∧ Fr n0 L ∧ h = h0
set_option maxRecDepth 65536 in
set_option maxHeartbeats 40000000 in
theorem rm6 (l : Launch) (Z : State) (a0 : Array Value) (hw : ∀ d ∈ tables_1, d.before a0 Z = true) (a1 : Addr) (r1 : Addr) (ar_r1 : Nat → Int32) (u_COMPACT_STRINGS : Int32) (h0 : Heap) (n0 : Nat) (Zs : n0 ≤ h0.size) (hcs : ¬ u_COMPACT_STRINGS = (0 : Int32)) (A_r1 : Afi Z h0 r1 .byte 1 ar_r1) (F_value_a1 : Fld Z h0 a1 "java/lang/String" "value" "[B" (.ref r1)) (F_coder_a1 : Fld Z h0 a1 "java/lang/String" "coder" "B" (.int (0 : Int32))) (S_COMPACT_STRINGS : Sta Z h0 "java/lang/String" "COMPACT_STRINGS" "Z" (.int u_COMPACT_STRINGS)) (E_a1 : Exa Z h0 a1 "java/lang/String") :
    Met1 l Z (⟨"java/lang/String", "length", "()I"⟩ : MethodName) jdk_42_method_54_code 1 (some .int) ({ frames := 1, cells := 0, slots := 0, locals := 13 } : Room) #[(.ref a1)] h0 (Q6 Z a1 r1 ar_r1 u_COMPACT_STRINGS h0 n0) := by
  refine own_met_of (plainFor_of_name pn_5) (ef_6 a1) ?_
  intro p e s m below meth c s₁ X hx hby hml hZ hown hnm hret hlk eT
  have hown : s.vm.findClass "java/lang/String" = some m.cls := hown
  have N := Fr.nil n0
  refine own_aloadN X hx hby (.ref a1) d6_0 rfl rfl 1 rfl ?_
  refine own_getF X hx hby hZ hown (host := "") (Or.inl (hw _ (List.mem_of_getElem? (i := 31) rfl))) Via.refl eT F_value_a1 d6_1 4 rfl ?_
  intro T1 X eT
  refine own_arraylength X hx hby hZ (1 : Int32) eT A_r1 rfl d6_4 5 rfl ?_
  refine own_aloadN X hx hby (.ref a1) d6_5 rfl rfl 6 rfl ?_
  refine own_callV X hx hby hZ (st := [(.int (1 : Int32))]) [] rfl hown (hw _ (List.mem_of_getElem? (i := 37) rfl)) (hw _ (List.mem_of_getElem? (i := 38) rfl)) (hw _ (List.mem_of_getElem? (i := 40) rfl)) (hw _ (List.mem_of_getElem? (i := 39) rfl)) (hw _ (List.mem_of_getElem? (i := 5) rfl)) (hw _ (List.mem_of_getElem? (i := 41) rfl)) E_a1 (by decide) d6_6 (rm7 l Z a0 hw a1 u_COMPACT_STRINGS h0 n0 Zs hcs S_COMPACT_STRINGS F_coder_a1) eT pd_0 rfl (by rw [hml]; rfl) (by decide) 1 rfl (by decide) (by decide) (by decide) 9 rfl ?_
  intro T6 L9 v9 X hQ
  obtain ⟨rfl, N9, eT⟩ := hQ
  have N := Fr.app N N9
  show Go p e below _ T6 (mkF m 9 #[.val (.ref a1)] [(.int (0 : Int32)), (.int (1 : Int32))])
  refine own_ishr X hx hby d6_9 10 rfl ?_
  refine own_top (v' := (.int (1 : Int32))) (congrArg Value.int (by decide)) ?_
  refine own_retI X hx hby hret hlk d6_10 (by decide) (by decide) ?_
  rw [eT]
  exact ⟨rfl, N, rfl⟩
theorem ef_9 (a1 : Addr) (m : MethodId) : entryFrame m #[(.ref a1)] 1 = mkF m 0 #[.val (.ref a1)] [] := by first | (simp [entryFrame, mkF, argsToLocals, Value.category]; done) | rfl
def Q9 (Z : State) (a1 : Addr) (u_COMPACT_STRINGS : Int32) (h0 : Heap) (n0 : Nat) (v : Option Value) (h : Heap) (L : List Loc) : Prop := v = some (.int (1 : Int32)) ∧ Fr n0 L ∧ h = h0
set_option maxRecDepth 65536 in
set_option maxHeartbeats 40000000 in
theorem rm9 (l : Launch) (Z : State) (a0 : Array Value) (hw : ∀ d ∈ tables_1, d.before a0 Z = true) (a1 : Addr) (u_COMPACT_STRINGS : Int32) (h0 : Heap) (n0 : Nat) (Zs : n0 ≤ h0.size) (hcs : ¬ u_COMPACT_STRINGS = (0 : Int32)) (S_COMPACT_STRINGS : Sta Z h0 "java/lang/String" "COMPACT_STRINGS" "Z" (.int u_COMPACT_STRINGS)) (F_coder_a1 : Fld Z h0 a1 "java/lang/String" "coder" "B" (.int (0 : Int32))) :
    Met1 l Z (⟨"java/lang/String", "isLatin1", "()Z"⟩ : MethodName) jdk_42_method_154_code 1 (some .boolean) ({ frames := 0, cells := 0, slots := 0, locals := 0 } : Room) #[(.ref a1)] h0 (Q9 Z a1 u_COMPACT_STRINGS h0 n0) := by
  refine own_met_of (plainFor_of_name pn_5) (ef_9 a1) ?_
  intro p e s m below meth c s₁ X hx hby hml hZ hown hnm hret hlk eT
  have hown : s.vm.findClass "java/lang/String" = some m.cls := hown
  have N := Fr.nil n0
  refine own_getS X hx hby hZ hown (host := "") (Or.inl (hw _ (List.mem_of_getElem? (i := 42) rfl))) Via.refl eT S_COMPACT_STRINGS d9_0 3 rfl ?_
  intro T0 X eT
  have c3 : ¬ u_COMPACT_STRINGS = (0 : Int32) := hcs
  refine own_if_eq X hx hby d9_3 17 6 (by decide) rfl (fun q => absurd q c3) (fun _ => ?_)
  refine own_aloadN X hx hby (.ref a1) d9_6 rfl rfl 7 rfl ?_
  refine own_getF X hx hby hZ hown (host := "") (Or.inl (hw _ (List.mem_of_getElem? (i := 43) rfl))) Via.refl eT F_coder_a1 d9_7 10 rfl ?_
  intro T7 X eT
  have c10 : (0 : Int32) = (0 : Int32) := by decide
  refine own_if_ne X hx hby d9_10 17 13 (by decide) rfl (fun q => absurd c10 q) (fun _ => ?_)
  refine own_iconst X hx hby (1 : Int32) d9_13 rfl 14 rfl ?_
  refine own_goto X hx hby d9_14 18 (by decide) ?_
  refine own_retN X hx hby hret hlk (t := .boolean) (z' := (1 : Int32)) (by simp) d9_18 (by decide) (by decide) rfl ?_
  rw [eT]
  exact ⟨rfl, N, rfl⟩
theorem ef_12_z (p1 : Int32) (p2 : Int32) (m : MethodId) : entryFrame m #[(.int p1), (.int p2), .null] 3 = mkF m 0 #[.val (.int p1), .val (.int p2), .val .null] [] := by first | (simp [entryFrame, mkF, argsToLocals, Value.category]; done) | rfl
def Q12_z (Z : State) (p1 : Int32) (p2 : Int32) (h0 : Heap) (n0 : Nat) (v : Option Value) (h : Heap) (L : List Loc) : Prop := v = some (.int p1) ∧ Fr n0 L ∧ h = h0
set_option maxRecDepth 65536 in
set_option maxHeartbeats 40000000 in
theorem rm12_z (l : Launch) (Z : State) (a0 : Array Value) (hw : ∀ d ∈ tables_1, d.before a0 Z = true) (p1 : Int32) (p2 : Int32) (h0 : Heap) (n0 : Nat) (Zs : n0 ≤ h0.size) (hi : ¬ p1 < (0 : Int32)) (hj : p1 < p2) :
    Met1 l Z (⟨"jdk/internal/util/Preconditions", "checkIndex", "(IILjava/util/function/BiFunction;)I"⟩ : MethodName) jdk_41_method_11_code 3 (some .int) ({ frames := 0, cells := 0, slots := 0, locals := 0 } : Room) #[(.int p1), (.int p2), .null] h0 (Q12_z Z p1 p2 h0 n0) := by
  refine own_met_of (plainFor_of_name pn_12) (ef_12_z p1 p2) ?_
  intro p e s m below meth c s₁ X hx hby hml hZ hown hnm hret hlk eT
  have hown : s.vm.findClass "jdk/internal/util/Preconditions" = some m.cls := hown
  have N := Fr.nil n0
  refine own_iloadN X hx hby p1 d12_0 rfl 1 rfl ?_
  have c1 : ¬ p1 < (0 : Int32) := hi
  refine own_if_lt X hx hby d12_1 9 4 (by decide) rfl (fun q => absurd q c1) (fun _ => ?_)
  refine own_iloadN X hx hby p1 d12_4 rfl 5 rfl ?_
  refine own_iloadN X hx hby p2 d12_5 rfl 6 rfl ?_
  have c6 : p1 < p2 := hj
  refine own_icmp_lt X hx hby d12_6 16 9 (by decide) rfl (fun _ => ?_) (fun q => absurd c6 q)
  refine own_iloadN X hx hby p1 d12_16 rfl 17 rfl ?_
  refine own_retI X hx hby hret hlk d12_17 (by decide) (by decide) ?_
  rw [eT]
  exact ⟨rfl, N, rfl⟩
theorem ef_12 (p1 : Int32) (p2 : Int32) (a3 : Addr) (m : MethodId) : entryFrame m #[(.int p1), (.int p2), (.ref a3)] 3 = mkF m 0 #[.val (.int p1), .val (.int p2), .val (.ref a3)] [] := by first | (simp [entryFrame, mkF, argsToLocals, Value.category]; done) | rfl
def Q12 (Z : State) (p1 : Int32) (p2 : Int32) (a3 : Addr) (h0 : Heap) (n0 : Nat) (v : Option Value) (h : Heap) (L : List Loc) : Prop := v = some (.int p1) ∧ Fr n0 L ∧ h = h0
set_option maxRecDepth 65536 in
set_option maxHeartbeats 40000000 in
theorem rm12 (l : Launch) (Z : State) (a0 : Array Value) (hw : ∀ d ∈ tables_1, d.before a0 Z = true) (p1 : Int32) (p2 : Int32) (a3 : Addr) (h0 : Heap) (n0 : Nat) (Zs : n0 ≤ h0.size) (hi : ¬ p1 < (0 : Int32)) (hj : p1 < p2) :
    Met1 l Z (⟨"jdk/internal/util/Preconditions", "checkIndex", "(IILjava/util/function/BiFunction;)I"⟩ : MethodName) jdk_41_method_11_code 3 (some .int) ({ frames := 0, cells := 0, slots := 0, locals := 0 } : Room) #[(.int p1), (.int p2), (.ref a3)] h0 (Q12 Z p1 p2 a3 h0 n0) := by
  refine own_met_of (plainFor_of_name pn_12) (ef_12 p1 p2 a3) ?_
  intro p e s m below meth c s₁ X hx hby hml hZ hown hnm hret hlk eT
  have hown : s.vm.findClass "jdk/internal/util/Preconditions" = some m.cls := hown
  have N := Fr.nil n0
  refine own_iloadN X hx hby p1 d12_0 rfl 1 rfl ?_
  have c1 : ¬ p1 < (0 : Int32) := hi
  refine own_if_lt X hx hby d12_1 9 4 (by decide) rfl (fun q => absurd q c1) (fun _ => ?_)
  refine own_iloadN X hx hby p1 d12_4 rfl 5 rfl ?_
  refine own_iloadN X hx hby p2 d12_5 rfl 6 rfl ?_
  have c6 : p1 < p2 := hj
  refine own_icmp_lt X hx hby d12_6 16 9 (by decide) rfl (fun _ => ?_) (fun q => absurd c6 q)
  refine own_iloadN X hx hby p1 d12_16 rfl 17 rfl ?_
  refine own_retI X hx hby hret hlk d12_17 (by decide) (by decide) ?_
  rw [eT]
  exact ⟨rfl, N, rfl⟩
theorem ef_11 (p1 : Int32) (p2 : Int32) (m : MethodId) : entryFrame m #[(.int p1), (.int p2)] 2 = mkF m 0 #[.val (.int p1), .val (.int p2)] [] := by first | (simp [entryFrame, mkF, argsToLocals, Value.category]; done) | rfl
def Q11 (Z : State) (p1 : Int32) (p2 : Int32) (u_SIOOBE_FORMATTER : Value) (h0 : Heap) (n0 : Nat) (v : Option Value) (h : Heap) (L : List Loc) : Prop := v = none ∧ Fr n0 L ∧ h = h0
set_option maxRecDepth 65536 in
set_option maxHeartbeats 40000000 in
theorem rm11 (l : Launch) (Z : State) (a0 : Array Value) (hw : ∀ d ∈ tables_1, d.before a0 Z = true) (p1 : Int32) (p2 : Int32) (u_SIOOBE_FORMATTER : Value) (h0 : Heap) (n0 : Nat) (Zs : n0 ≤ h0.size) (hi : ¬ p1 < (0 : Int32)) (hj : p1 < p2) (hsf : u_SIOOBE_FORMATTER.isRef = true) (S_SIOOBE_FORMATTER : Sta Z h0 "jdk/internal/util/Preconditions" "SIOOBE_FORMATTER" "Ljava/util/function/BiFunction;" u_SIOOBE_FORMATTER) :
    Met1 l Z (⟨"java/lang/String", "checkIndex", "(II)V"⟩ : MethodName) jdk_42_method_155_code 2 none ({ frames := 1, cells := 0, slots := 0, locals := 14 } : Room) #[(.int p1), (.int p2)] h0 (Q11 Z p1 p2 u_SIOOBE_FORMATTER h0 n0) := by
  refine own_met_of (plainFor_of_name pn_5) (ef_11 p1 p2) ?_
  intro p e s m below meth c s₁ X hx hby hml hZ hown hnm hret hlk eT
  have hown : s.vm.findClass "java/lang/String" = some m.cls := hown
  have N := Fr.nil n0
  refine own_iloadN X hx hby p1 d11_0 rfl 1 rfl ?_
  refine own_iloadN X hx hby p2 d11_1 rfl 2 rfl ?_
  refine own_getS X hx hby hZ hown (host := "") (Or.inl (hw _ (List.mem_of_getElem? (i := 61) rfl))) Via.refl eT S_SIOOBE_FORMATTER d11_2 5 rfl ?_
  intro T2 X eT
  rcases ref_cases hsf with rfl | ⟨bS, rfl⟩
  · skip
    refine own_callS X hx hby hZ (st := []) [(.int p1), (.int p2), .null] rfl hown (hw _ (List.mem_of_getElem? (i := 63) rfl)) (hw _ (List.mem_of_getElem? (i := 64) rfl)) (hw _ (List.mem_of_getElem? (i := 62) rfl)) (hw _ (List.mem_of_getElem? (i := 65) rfl)) (by decide) d11_5 (rm12_z l Z a0 hw p1 p2 h0 n0 Zs hi hj) eT pd_8 rfl (by rw [hml]; rfl) (by decide) 0 rfl (by decide) (by decide) (by decide) 8 rfl ?_
    intro T5 L9 v9 X hQ
    obtain ⟨rfl, N9, eT⟩ := hQ
    have N := Fr.app N N9
    show Go p e below _ T5 (mkF m 8 #[.val (.int p1), .val (.int p2)] [(.int p1)])
    refine own_pop X hx hby d11_8 rfl 9 rfl ?_
    refine own_ret X hx hby hret hlk d11_9 (by decide) (by decide) ?_
    rw [eT]
    exact ⟨rfl, N, rfl⟩
  · skip
    refine own_callS X hx hby hZ (st := []) [(.int p1), (.int p2), (.ref bS)] rfl hown (hw _ (List.mem_of_getElem? (i := 63) rfl)) (hw _ (List.mem_of_getElem? (i := 64) rfl)) (hw _ (List.mem_of_getElem? (i := 62) rfl)) (hw _ (List.mem_of_getElem? (i := 65) rfl)) (by decide) d11_5 (rm12 l Z a0 hw p1 p2 bS h0 n0 Zs hi hj) eT pd_8 rfl (by rw [hml]; rfl) (by decide) 0 rfl (by decide) (by decide) (by decide) 8 rfl ?_
    intro T5 L9 v9 X hQ
    obtain ⟨rfl, N9, eT⟩ := hQ
    have N := Fr.app N N9
    show Go p e below _ T5 (mkF m 8 #[.val (.int p1), .val (.int p2)] [(.int p1)])
    refine own_pop X hx hby d11_8 rfl 9 rfl ?_
    refine own_ret X hx hby hret hlk d11_9 (by decide) (by decide) ?_
    rw [eT]
    exact ⟨rfl, N, rfl⟩
theorem ef_10 (a1 : Addr) (m : MethodId) : entryFrame m #[(.ref a1), (.int (0 : Int32))] 2 = mkF m 0 #[.val (.ref a1), .val (.int (0 : Int32))] [] := by first | (simp [entryFrame, mkF, argsToLocals, Value.category]; done) | rfl
def Q10 (Z : State) (a1 : Addr) (ar_a1 : Nat → Int32) (u_SIOOBE_FORMATTER : Value) (h0 : Heap) (n0 : Nat) (v : Option Value) (h : Heap) (L : List Loc) : Prop := v = some (.int (nar .char (((ar_a1 0) &&& (255 : Int32)).toUInt32.toUInt16.toUInt32.toInt32))) ∧ Fr n0 L ∧ h = h0
set_option maxRecDepth 65536 in
set_option maxHeartbeats 40000000 in
theorem rm10 (l : Launch) (Z : State) (a0 : Array Value) (hw : ∀ d ∈ tables_1, d.before a0 Z = true) (a1 : Addr) (ar_a1 : Nat → Int32) (u_SIOOBE_FORMATTER : Value) (h0 : Heap) (n0 : Nat) (Zs : n0 ≤ h0.size) (hsf : u_SIOOBE_FORMATTER.isRef = true) (A_a1 : Afi Z h0 a1 .byte 1 ar_a1) (S_SIOOBE_FORMATTER : Sta Z h0 "jdk/internal/util/Preconditions" "SIOOBE_FORMATTER" "Ljava/util/function/BiFunction;" u_SIOOBE_FORMATTER) :
    Met1 l Z (⟨"java/lang/StringLatin1", "charAt", "([BI)C"⟩ : MethodName) jdk_43_method_2_code 2 (some .char) ({ frames := 2, cells := 0, slots := 0, locals := 27 } : Room) #[(.ref a1), (.int (0 : Int32))] h0 (Q10 Z a1 ar_a1 u_SIOOBE_FORMATTER h0 n0) := by
  refine own_met_of (plainFor_of_name pn_10) (ef_10 a1) ?_
  intro p e s m below meth c s₁ X hx hby hml hZ hown hnm hret hlk eT
  have hown : s.vm.findClass "java/lang/StringLatin1" = some m.cls := hown
  have N := Fr.nil n0
  refine own_iloadN X hx hby (0 : Int32) d10_0 rfl 1 rfl ?_
  refine own_aloadN X hx hby (.ref a1) d10_1 rfl rfl 2 rfl ?_
  refine own_arraylength X hx hby hZ (1 : Int32) eT A_a1 rfl d10_2 3 rfl ?_
  refine own_callS X hx hby hZ (st := []) [(.int (0 : Int32)), (.int (1 : Int32))] rfl hown (hw _ (List.mem_of_getElem? (i := 58) rfl)) (hw _ (List.mem_of_getElem? (i := 59) rfl)) (hw _ (List.mem_of_getElem? (i := 5) rfl)) (hw _ (List.mem_of_getElem? (i := 60) rfl)) (by decide) d10_3 (rm11 l Z a0 hw (0 : Int32) (1 : Int32) u_SIOOBE_FORMATTER h0 n0 Zs (by decide) (by decide) hsf S_SIOOBE_FORMATTER) eT pd_7 rfl (by rw [hml]; rfl) (by decide) 0 rfl (by decide) (by decide) (by decide) 6 rfl ?_
  intro T3 L9 v9 X hQ
  obtain ⟨rfl, N9, eT⟩ := hQ
  have N := Fr.app N N9
  show Go p e below _ T3 (mkF m 6 #[.val (.ref a1), .val (.int (0 : Int32))] [])
  refine own_aloadN X hx hby (.ref a1) d10_6 rfl rfl 7 rfl ?_
  refine own_iloadN X hx hby (0 : Int32) d10_7 rfl 8 rfl ?_
  refine own_baload X hx hby hZ (ar_a1 0) eT A_a1 (by decide) rfl d10_8 9 rfl ?_
  refine own_sipush X hx hby (255 : Int32) d10_9 rfl 12 rfl ?_
  refine own_iand X hx hby d10_12 13 rfl ?_
  refine own_i2c X hx hby d10_13 14 rfl ?_
  refine own_retN X hx hby hret hlk (t := .char) (z' := (nar .char (((ar_a1 0) &&& (255 : Int32)).toUInt32.toUInt16.toUInt32.toInt32))) (by simp) d10_14 (by decide) (by decide) rfl ?_
  rw [eT]
  exact ⟨rfl, N, rfl⟩
theorem ef_8 (a1 : Addr) (m : MethodId) : entryFrame m #[(.ref a1), (.int (0 : Int32))] 2 = mkF m 0 #[.val (.ref a1), .val (.int (0 : Int32))] [] := by first | (simp [entryFrame, mkF, argsToLocals, Value.category]; done) | rfl
def Q8 (Z : State) (a1 : Addr) (r1 : Addr) (ar_r1 : Nat → Int32) (u_COMPACT_STRINGS : Int32) (u_SIOOBE_FORMATTER : Value) (h0 : Heap) (n0 : Nat) (v : Option Value) (h : Heap) (L : List Loc) : Prop := v = some (.int (nar .char (nar .char (((ar_r1 0) &&& (255 : Int32)).toUInt32.toUInt16.toUInt32.toInt32)))) ∧ Fr n0 L ∧ h = h0
set_option maxRecDepth 65536 in
set_option maxHeartbeats 40000000 in
theorem rm8 (l : Launch) (Z : State) (a0 : Array Value) (hw : ∀ d ∈ tables_1, d.before a0 Z = true) (a1 : Addr) (r1 : Addr) (ar_r1 : Nat → Int32) (u_COMPACT_STRINGS : Int32) (u_SIOOBE_FORMATTER : Value) (h0 : Heap) (n0 : Nat) (Zs : n0 ≤ h0.size) (hcs : ¬ u_COMPACT_STRINGS = (0 : Int32)) (hsf : u_SIOOBE_FORMATTER.isRef = true) (A_r1 : Afi Z h0 r1 .byte 1 ar_r1) (F_coder_a1 : Fld Z h0 a1 "java/lang/String" "coder" "B" (.int (0 : Int32))) (S_COMPACT_STRINGS : Sta Z h0 "java/lang/String" "COMPACT_STRINGS" "Z" (.int u_COMPACT_STRINGS)) (E_a1 : Exa Z h0 a1 "java/lang/String") (F_value_a1 : Fld Z h0 a1 "java/lang/String" "value" "[B" (.ref r1)) (S_SIOOBE_FORMATTER : Sta Z h0 "jdk/internal/util/Preconditions" "SIOOBE_FORMATTER" "Ljava/util/function/BiFunction;" u_SIOOBE_FORMATTER) :
    Met1 l Z (⟨"java/lang/String", "charAt", "(I)C"⟩ : MethodName) jdk_42_method_56_code 2 (some .char) ({ frames := 3, cells := 0, slots := 0, locals := 40 } : Room) #[(.ref a1), (.int (0 : Int32))] h0 (Q8 Z a1 r1 ar_r1 u_COMPACT_STRINGS u_SIOOBE_FORMATTER h0 n0) := by
  refine own_met_of (plainFor_of_name pn_5) (ef_8 a1) ?_
  intro p e s m below meth c s₁ X hx hby hml hZ hown hnm hret hlk eT
  have hown : s.vm.findClass "java/lang/String" = some m.cls := hown
  have N := Fr.nil n0
  refine own_aloadN X hx hby (.ref a1) d8_0 rfl rfl 1 rfl ?_
  refine own_callV X hx hby hZ (st := []) [] rfl hown (hw _ (List.mem_of_getElem? (i := 49) rfl)) (hw _ (List.mem_of_getElem? (i := 50) rfl)) (hw _ (List.mem_of_getElem? (i := 52) rfl)) (hw _ (List.mem_of_getElem? (i := 51) rfl)) (hw _ (List.mem_of_getElem? (i := 5) rfl)) (hw _ (List.mem_of_getElem? (i := 53) rfl)) E_a1 (by decide) d8_1 (rm9 l Z a0 hw a1 u_COMPACT_STRINGS h0 n0 Zs hcs S_COMPACT_STRINGS F_coder_a1) eT pd_3 rfl (by rw [hml]; rfl) (by decide) 0 rfl (by decide) (by decide) (by decide) 4 rfl ?_
  intro T1 L9 v9 X hQ
  obtain ⟨rfl, N9, eT⟩ := hQ
  have N := Fr.app N N9
  show Go p e below _ T1 (mkF m 4 #[.val (.ref a1), .val (.int (0 : Int32))] [(.int (1 : Int32))])
  have c4 : ¬ (1 : Int32) = (0 : Int32) := by decide
  refine own_if_eq X hx hby d8_4 16 7 (by decide) rfl (fun q => absurd q c4) (fun _ => ?_)
  refine own_aloadN X hx hby (.ref a1) d8_7 rfl rfl 8 rfl ?_
  refine own_getF X hx hby hZ hown (host := "") (Or.inl (hw _ (List.mem_of_getElem? (i := 31) rfl))) Via.refl eT F_value_a1 d8_8 11 rfl ?_
  intro T8 X eT
  refine own_iloadN X hx hby (0 : Int32) d8_11 rfl 12 rfl ?_
  refine own_callS X hx hby hZ (st := []) [(.ref r1), (.int (0 : Int32))] rfl hown (hw _ (List.mem_of_getElem? (i := 54) rfl)) (hw _ (List.mem_of_getElem? (i := 55) rfl)) (hw _ (List.mem_of_getElem? (i := 56) rfl)) (hw _ (List.mem_of_getElem? (i := 57) rfl)) (by decide) d8_12 (rm10 l Z a0 hw r1 ar_r1 u_SIOOBE_FORMATTER h0 n0 Zs hsf A_r1 S_SIOOBE_FORMATTER) eT pd_12 rfl (by rw [hml]; rfl) (by decide) 0 rfl (by decide) (by decide) (by decide) 15 rfl ?_
  intro T12 L9 v9 X hQ
  obtain ⟨rfl, N9, eT⟩ := hQ
  have N := Fr.app N N9
  show Go p e below _ T12 (mkF m 15 #[.val (.ref a1), .val (.int (0 : Int32))] [(.int (nar .char (((ar_r1 0) &&& (255 : Int32)).toUInt32.toUInt16.toUInt32.toInt32)))])
  refine own_retN X hx hby hret hlk (t := .char) (z' := (nar .char (nar .char (((ar_r1 0) &&& (255 : Int32)).toUInt32.toUInt16.toUInt32.toInt32)))) (by simp) d8_15 (by decide) (by decide) rfl ?_
  rw [eT]
  exact ⟨rfl, N, rfl⟩
theorem ef_13 (p1 : Int32) (m : MethodId) : entryFrame m #[(.int p1)] 1 = mkF m 0 #[.val (.int p1)] [] := by first | (simp [entryFrame, mkF, argsToLocals, Value.category]; done) | rfl
def f13 (p1 : Int32) : Int32 := (if p1 < (97 : Int32) then (if p1 < (65 : Int32) then (if p1 < (48 : Int32) then (if p1 = (46 : Int32) then (1 : Int32) else (if p1 = (95 : Int32) then (1 : Int32) else (if p1 = (45 : Int32) then (1 : Int32) else (0 : Int32)))) else (if (57 : Int32) < p1 then (if p1 = (46 : Int32) then (1 : Int32) else (if p1 = (95 : Int32) then (1 : Int32) else (if p1 = (45 : Int32) then (1 : Int32) else (0 : Int32)))) else (1 : Int32))) else (if (90 : Int32) < p1 then (if p1 < (48 : Int32) then (if p1 = (46 : Int32) then (1 : Int32) else (if p1 = (95 : Int32) then (1 : Int32) else (if p1 = (45 : Int32) then (1 : Int32) else (0 : Int32)))) else (if (57 : Int32) < p1 then (if p1 = (46 : Int32) then (1 : Int32) else (if p1 = (95 : Int32) then (1 : Int32) else (if p1 = (45 : Int32) then (1 : Int32) else (0 : Int32)))) else (1 : Int32))) else (1 : Int32))) else (if (122 : Int32) < p1 then (if p1 < (65 : Int32) then (if p1 < (48 : Int32) then (if p1 = (46 : Int32) then (1 : Int32) else (if p1 = (95 : Int32) then (1 : Int32) else (if p1 = (45 : Int32) then (1 : Int32) else (0 : Int32)))) else (if (57 : Int32) < p1 then (if p1 = (46 : Int32) then (1 : Int32) else (if p1 = (95 : Int32) then (1 : Int32) else (if p1 = (45 : Int32) then (1 : Int32) else (0 : Int32)))) else (1 : Int32))) else (if (90 : Int32) < p1 then (if p1 < (48 : Int32) then (if p1 = (46 : Int32) then (1 : Int32) else (if p1 = (95 : Int32) then (1 : Int32) else (if p1 = (45 : Int32) then (1 : Int32) else (0 : Int32)))) else (if (57 : Int32) < p1 then (if p1 = (46 : Int32) then (1 : Int32) else (if p1 = (95 : Int32) then (1 : Int32) else (if p1 = (45 : Int32) then (1 : Int32) else (0 : Int32)))) else (1 : Int32))) else (1 : Int32))) else (1 : Int32)))
def Q13 (Z : State) (p1 : Int32) (h0 : Heap) (n0 : Nat) (v : Option Value) (h : Heap) (L : List Loc) : Prop := v = some (.int (f13 p1)) ∧ Fr n0 L ∧ h = h0
set_option maxRecDepth 65536 in
set_option maxHeartbeats 40000000 in
theorem rm13 (l : Launch) (Z : State) (a0 : Array Value) (hw : ∀ d ∈ tables_1, d.before a0 Z = true) (p1 : Int32) (h0 : Heap) (n0 : Nat) (Zs : n0 ≤ h0.size) :
    Met1 l Z (⟨"com/example/enroll/enroll/catalogue/Topic", "isNameCharacter", "(C)Z"⟩ : MethodName) prog_20_method_6_code 1 (some .boolean) ({ frames := 0, cells := 0, slots := 0, locals := 0 } : Room) #[(.int p1)] h0 (Q13 Z p1 h0 n0) := by
  refine own_met_of (plainFor_of_name pn_13) (ef_13 p1) ?_
  intro p e s m below meth c s₁ X hx hby hml hZ hown hnm hret hlk eT
  have hown : s.vm.findClass "com/example/enroll/enroll/catalogue/Topic" = some m.cls := hown
  have N := Fr.nil n0
  refine own_iloadN X hx hby p1 d13_0 rfl 1 rfl ?_
  refine own_bipush X hx hby (97 : Int32) d13_1 rfl 3 rfl ?_
  refine own_icmp_lt X hx hby d13_3 12 6 (by decide) rfl (fun c3 => ?_) (fun c3 => ?_)
  · skip
    refine own_iloadN X hx hby p1 d13_12 rfl 13 rfl ?_
    refine own_bipush X hx hby (65 : Int32) d13_13 rfl 15 rfl ?_
    refine own_icmp_lt X hx hby d13_15 24 18 (by decide) rfl (fun c15 => ?_) (fun c15 => ?_)
    · skip
      refine own_iloadN X hx hby p1 d13_24 rfl 25 rfl ?_
      refine own_bipush X hx hby (48 : Int32) d13_25 rfl 27 rfl ?_
      refine own_icmp_lt X hx hby d13_27 36 30 (by decide) rfl (fun c27 => ?_) (fun c27 => ?_)
      · skip
        refine own_iloadN X hx hby p1 d13_36 rfl 37 rfl ?_
        refine own_bipush X hx hby (46 : Int32) d13_37 rfl 39 rfl ?_
        refine own_icmp_eq X hx hby d13_39 54 42 (by decide) rfl (fun c39 => ?_) (fun c39 => ?_)
        · skip
          refine own_iconst X hx hby (1 : Int32) d13_54 rfl 55 rfl ?_
          refine own_goto X hx hby d13_55 59 (by decide) ?_
          refine own_retN X hx hby hret hlk (t := .boolean) (z' := (1 : Int32)) (by simp) d13_59 (by decide) (by decide) rfl ?_
          rw [eT]
          exact ⟨congrArg (fun z => some (Value.int z)) (by unfold f13; rw [if_pos c3, if_pos c15, if_pos c27, if_pos c39]), N, rfl⟩
        · skip
          refine own_iloadN X hx hby p1 d13_42 rfl 43 rfl ?_
          refine own_bipush X hx hby (95 : Int32) d13_43 rfl 45 rfl ?_
          refine own_icmp_eq X hx hby d13_45 54 48 (by decide) rfl (fun c45 => ?_) (fun c45 => ?_)
          · skip
            refine own_iconst X hx hby (1 : Int32) d13_54 rfl 55 rfl ?_
            refine own_goto X hx hby d13_55 59 (by decide) ?_
            refine own_retN X hx hby hret hlk (t := .boolean) (z' := (1 : Int32)) (by simp) d13_59 (by decide) (by decide) rfl ?_
            rw [eT]
            exact ⟨congrArg (fun z => some (Value.int z)) (by unfold f13; rw [if_pos c3, if_pos c15, if_pos c27, if_neg c39, if_pos c45]), N, rfl⟩
          · skip
            refine own_iloadN X hx hby p1 d13_48 rfl 49 rfl ?_
            refine own_bipush X hx hby (45 : Int32) d13_49 rfl 51 rfl ?_
            refine own_icmp_ne X hx hby d13_51 58 54 (by decide) rfl (fun c51 => ?_) (fun c51 => ?_)
            · skip
              refine own_iconst X hx hby (0 : Int32) d13_58 rfl 59 rfl ?_
              refine own_retN X hx hby hret hlk (t := .boolean) (z' := (0 : Int32)) (by simp) d13_59 (by decide) (by decide) rfl ?_
              rw [eT]
              exact ⟨congrArg (fun z => some (Value.int z)) (by unfold f13; rw [if_pos c3, if_pos c15, if_pos c27, if_neg c39, if_neg c45, if_neg c51]), N, rfl⟩
            · skip
              refine own_iconst X hx hby (1 : Int32) d13_54 rfl 55 rfl ?_
              refine own_goto X hx hby d13_55 59 (by decide) ?_
              refine own_retN X hx hby hret hlk (t := .boolean) (z' := (1 : Int32)) (by simp) d13_59 (by decide) (by decide) rfl ?_
              rw [eT]
              exact ⟨congrArg (fun z => some (Value.int z)) (by unfold f13; rw [if_pos c3, if_pos c15, if_pos c27, if_neg c39, if_neg c45, if_pos c51]), N, rfl⟩
      · skip
        refine own_iloadN X hx hby p1 d13_30 rfl 31 rfl ?_
        refine own_bipush X hx hby (57 : Int32) d13_31 rfl 33 rfl ?_
        refine own_icmp_le X hx hby d13_33 54 36 (by decide) rfl (fun c33 => ?_) (fun c33 => ?_)
        · skip
          refine own_iconst X hx hby (1 : Int32) d13_54 rfl 55 rfl ?_
          refine own_goto X hx hby d13_55 59 (by decide) ?_
          refine own_retN X hx hby hret hlk (t := .boolean) (z' := (1 : Int32)) (by simp) d13_59 (by decide) (by decide) rfl ?_
          rw [eT]
          exact ⟨congrArg (fun z => some (Value.int z)) (by unfold f13; rw [if_pos c3, if_pos c15, if_neg c27, if_neg c33]), N, rfl⟩
        · skip
          refine own_iloadN X hx hby p1 d13_36 rfl 37 rfl ?_
          refine own_bipush X hx hby (46 : Int32) d13_37 rfl 39 rfl ?_
          refine own_icmp_eq X hx hby d13_39 54 42 (by decide) rfl (fun c39 => ?_) (fun c39 => ?_)
          · skip
            refine own_iconst X hx hby (1 : Int32) d13_54 rfl 55 rfl ?_
            refine own_goto X hx hby d13_55 59 (by decide) ?_
            refine own_retN X hx hby hret hlk (t := .boolean) (z' := (1 : Int32)) (by simp) d13_59 (by decide) (by decide) rfl ?_
            rw [eT]
            exact ⟨congrArg (fun z => some (Value.int z)) (by unfold f13; rw [if_pos c3, if_pos c15, if_neg c27, if_pos c33, if_pos c39]), N, rfl⟩
          · skip
            refine own_iloadN X hx hby p1 d13_42 rfl 43 rfl ?_
            refine own_bipush X hx hby (95 : Int32) d13_43 rfl 45 rfl ?_
            refine own_icmp_eq X hx hby d13_45 54 48 (by decide) rfl (fun c45 => ?_) (fun c45 => ?_)
            · skip
              refine own_iconst X hx hby (1 : Int32) d13_54 rfl 55 rfl ?_
              refine own_goto X hx hby d13_55 59 (by decide) ?_
              refine own_retN X hx hby hret hlk (t := .boolean) (z' := (1 : Int32)) (by simp) d13_59 (by decide) (by decide) rfl ?_
              rw [eT]
              exact ⟨congrArg (fun z => some (Value.int z)) (by unfold f13; rw [if_pos c3, if_pos c15, if_neg c27, if_pos c33, if_neg c39, if_pos c45]), N, rfl⟩
            · skip
              refine own_iloadN X hx hby p1 d13_48 rfl 49 rfl ?_
              refine own_bipush X hx hby (45 : Int32) d13_49 rfl 51 rfl ?_
              refine own_icmp_ne X hx hby d13_51 58 54 (by decide) rfl (fun c51 => ?_) (fun c51 => ?_)
              · skip
                refine own_iconst X hx hby (0 : Int32) d13_58 rfl 59 rfl ?_
                refine own_retN X hx hby hret hlk (t := .boolean) (z' := (0 : Int32)) (by simp) d13_59 (by decide) (by decide) rfl ?_
                rw [eT]
                exact ⟨congrArg (fun z => some (Value.int z)) (by unfold f13; rw [if_pos c3, if_pos c15, if_neg c27, if_pos c33, if_neg c39, if_neg c45, if_neg c51]), N, rfl⟩
              · skip
                refine own_iconst X hx hby (1 : Int32) d13_54 rfl 55 rfl ?_
                refine own_goto X hx hby d13_55 59 (by decide) ?_
                refine own_retN X hx hby hret hlk (t := .boolean) (z' := (1 : Int32)) (by simp) d13_59 (by decide) (by decide) rfl ?_
                rw [eT]
                exact ⟨congrArg (fun z => some (Value.int z)) (by unfold f13; rw [if_pos c3, if_pos c15, if_neg c27, if_pos c33, if_neg c39, if_neg c45, if_pos c51]), N, rfl⟩
    · skip
      refine own_iloadN X hx hby p1 d13_18 rfl 19 rfl ?_
      refine own_bipush X hx hby (90 : Int32) d13_19 rfl 21 rfl ?_
      refine own_icmp_le X hx hby d13_21 54 24 (by decide) rfl (fun c21 => ?_) (fun c21 => ?_)
      · skip
        refine own_iconst X hx hby (1 : Int32) d13_54 rfl 55 rfl ?_
        refine own_goto X hx hby d13_55 59 (by decide) ?_
        refine own_retN X hx hby hret hlk (t := .boolean) (z' := (1 : Int32)) (by simp) d13_59 (by decide) (by decide) rfl ?_
        rw [eT]
        exact ⟨congrArg (fun z => some (Value.int z)) (by unfold f13; rw [if_pos c3, if_neg c15, if_neg c21]), N, rfl⟩
      · skip
        refine own_iloadN X hx hby p1 d13_24 rfl 25 rfl ?_
        refine own_bipush X hx hby (48 : Int32) d13_25 rfl 27 rfl ?_
        refine own_icmp_lt X hx hby d13_27 36 30 (by decide) rfl (fun c27 => ?_) (fun c27 => ?_)
        · skip
          refine own_iloadN X hx hby p1 d13_36 rfl 37 rfl ?_
          refine own_bipush X hx hby (46 : Int32) d13_37 rfl 39 rfl ?_
          refine own_icmp_eq X hx hby d13_39 54 42 (by decide) rfl (fun c39 => ?_) (fun c39 => ?_)
          · skip
            refine own_iconst X hx hby (1 : Int32) d13_54 rfl 55 rfl ?_
            refine own_goto X hx hby d13_55 59 (by decide) ?_
            refine own_retN X hx hby hret hlk (t := .boolean) (z' := (1 : Int32)) (by simp) d13_59 (by decide) (by decide) rfl ?_
            rw [eT]
            exact ⟨congrArg (fun z => some (Value.int z)) (by unfold f13; rw [if_pos c3, if_neg c15, if_pos c21, if_pos c27, if_pos c39]), N, rfl⟩
          · skip
            refine own_iloadN X hx hby p1 d13_42 rfl 43 rfl ?_
            refine own_bipush X hx hby (95 : Int32) d13_43 rfl 45 rfl ?_
            refine own_icmp_eq X hx hby d13_45 54 48 (by decide) rfl (fun c45 => ?_) (fun c45 => ?_)
            · skip
              refine own_iconst X hx hby (1 : Int32) d13_54 rfl 55 rfl ?_
              refine own_goto X hx hby d13_55 59 (by decide) ?_
              refine own_retN X hx hby hret hlk (t := .boolean) (z' := (1 : Int32)) (by simp) d13_59 (by decide) (by decide) rfl ?_
              rw [eT]
              exact ⟨congrArg (fun z => some (Value.int z)) (by unfold f13; rw [if_pos c3, if_neg c15, if_pos c21, if_pos c27, if_neg c39, if_pos c45]), N, rfl⟩
            · skip
              refine own_iloadN X hx hby p1 d13_48 rfl 49 rfl ?_
              refine own_bipush X hx hby (45 : Int32) d13_49 rfl 51 rfl ?_
              refine own_icmp_ne X hx hby d13_51 58 54 (by decide) rfl (fun c51 => ?_) (fun c51 => ?_)
              · skip
                refine own_iconst X hx hby (0 : Int32) d13_58 rfl 59 rfl ?_
                refine own_retN X hx hby hret hlk (t := .boolean) (z' := (0 : Int32)) (by simp) d13_59 (by decide) (by decide) rfl ?_
                rw [eT]
                exact ⟨congrArg (fun z => some (Value.int z)) (by unfold f13; rw [if_pos c3, if_neg c15, if_pos c21, if_pos c27, if_neg c39, if_neg c45, if_neg c51]), N, rfl⟩
              · skip
                refine own_iconst X hx hby (1 : Int32) d13_54 rfl 55 rfl ?_
                refine own_goto X hx hby d13_55 59 (by decide) ?_
                refine own_retN X hx hby hret hlk (t := .boolean) (z' := (1 : Int32)) (by simp) d13_59 (by decide) (by decide) rfl ?_
                rw [eT]
                exact ⟨congrArg (fun z => some (Value.int z)) (by unfold f13; rw [if_pos c3, if_neg c15, if_pos c21, if_pos c27, if_neg c39, if_neg c45, if_pos c51]), N, rfl⟩
        · skip
          refine own_iloadN X hx hby p1 d13_30 rfl 31 rfl ?_
          refine own_bipush X hx hby (57 : Int32) d13_31 rfl 33 rfl ?_
          refine own_icmp_le X hx hby d13_33 54 36 (by decide) rfl (fun c33 => ?_) (fun c33 => ?_)
          · skip
            refine own_iconst X hx hby (1 : Int32) d13_54 rfl 55 rfl ?_
            refine own_goto X hx hby d13_55 59 (by decide) ?_
            refine own_retN X hx hby hret hlk (t := .boolean) (z' := (1 : Int32)) (by simp) d13_59 (by decide) (by decide) rfl ?_
            rw [eT]
            exact ⟨congrArg (fun z => some (Value.int z)) (by unfold f13; rw [if_pos c3, if_neg c15, if_pos c21, if_neg c27, if_neg c33]), N, rfl⟩
          · skip
            refine own_iloadN X hx hby p1 d13_36 rfl 37 rfl ?_
            refine own_bipush X hx hby (46 : Int32) d13_37 rfl 39 rfl ?_
            refine own_icmp_eq X hx hby d13_39 54 42 (by decide) rfl (fun c39 => ?_) (fun c39 => ?_)
            · skip
              refine own_iconst X hx hby (1 : Int32) d13_54 rfl 55 rfl ?_
              refine own_goto X hx hby d13_55 59 (by decide) ?_
              refine own_retN X hx hby hret hlk (t := .boolean) (z' := (1 : Int32)) (by simp) d13_59 (by decide) (by decide) rfl ?_
              rw [eT]
              exact ⟨congrArg (fun z => some (Value.int z)) (by unfold f13; rw [if_pos c3, if_neg c15, if_pos c21, if_neg c27, if_pos c33, if_pos c39]), N, rfl⟩
            · skip
              refine own_iloadN X hx hby p1 d13_42 rfl 43 rfl ?_
              refine own_bipush X hx hby (95 : Int32) d13_43 rfl 45 rfl ?_
              refine own_icmp_eq X hx hby d13_45 54 48 (by decide) rfl (fun c45 => ?_) (fun c45 => ?_)
              · skip
                refine own_iconst X hx hby (1 : Int32) d13_54 rfl 55 rfl ?_
                refine own_goto X hx hby d13_55 59 (by decide) ?_
                refine own_retN X hx hby hret hlk (t := .boolean) (z' := (1 : Int32)) (by simp) d13_59 (by decide) (by decide) rfl ?_
                rw [eT]
                exact ⟨congrArg (fun z => some (Value.int z)) (by unfold f13; rw [if_pos c3, if_neg c15, if_pos c21, if_neg c27, if_pos c33, if_neg c39, if_pos c45]), N, rfl⟩
              · skip
                refine own_iloadN X hx hby p1 d13_48 rfl 49 rfl ?_
                refine own_bipush X hx hby (45 : Int32) d13_49 rfl 51 rfl ?_
                refine own_icmp_ne X hx hby d13_51 58 54 (by decide) rfl (fun c51 => ?_) (fun c51 => ?_)
                · skip
                  refine own_iconst X hx hby (0 : Int32) d13_58 rfl 59 rfl ?_
                  refine own_retN X hx hby hret hlk (t := .boolean) (z' := (0 : Int32)) (by simp) d13_59 (by decide) (by decide) rfl ?_
                  rw [eT]
                  exact ⟨congrArg (fun z => some (Value.int z)) (by unfold f13; rw [if_pos c3, if_neg c15, if_pos c21, if_neg c27, if_pos c33, if_neg c39, if_neg c45, if_neg c51]), N, rfl⟩
                · skip
                  refine own_iconst X hx hby (1 : Int32) d13_54 rfl 55 rfl ?_
                  refine own_goto X hx hby d13_55 59 (by decide) ?_
                  refine own_retN X hx hby hret hlk (t := .boolean) (z' := (1 : Int32)) (by simp) d13_59 (by decide) (by decide) rfl ?_
                  rw [eT]
                  exact ⟨congrArg (fun z => some (Value.int z)) (by unfold f13; rw [if_pos c3, if_neg c15, if_pos c21, if_neg c27, if_pos c33, if_neg c39, if_neg c45, if_pos c51]), N, rfl⟩
  · skip
    refine own_iloadN X hx hby p1 d13_6 rfl 7 rfl ?_
    refine own_bipush X hx hby (122 : Int32) d13_7 rfl 9 rfl ?_
    refine own_icmp_le X hx hby d13_9 54 12 (by decide) rfl (fun c9 => ?_) (fun c9 => ?_)
    · skip
      refine own_iconst X hx hby (1 : Int32) d13_54 rfl 55 rfl ?_
      refine own_goto X hx hby d13_55 59 (by decide) ?_
      refine own_retN X hx hby hret hlk (t := .boolean) (z' := (1 : Int32)) (by simp) d13_59 (by decide) (by decide) rfl ?_
      rw [eT]
      exact ⟨congrArg (fun z => some (Value.int z)) (by unfold f13; rw [if_neg c3, if_neg c9]), N, rfl⟩
    · skip
      refine own_iloadN X hx hby p1 d13_12 rfl 13 rfl ?_
      refine own_bipush X hx hby (65 : Int32) d13_13 rfl 15 rfl ?_
      refine own_icmp_lt X hx hby d13_15 24 18 (by decide) rfl (fun c15 => ?_) (fun c15 => ?_)
      · skip
        refine own_iloadN X hx hby p1 d13_24 rfl 25 rfl ?_
        refine own_bipush X hx hby (48 : Int32) d13_25 rfl 27 rfl ?_
        refine own_icmp_lt X hx hby d13_27 36 30 (by decide) rfl (fun c27 => ?_) (fun c27 => ?_)
        · skip
          refine own_iloadN X hx hby p1 d13_36 rfl 37 rfl ?_
          refine own_bipush X hx hby (46 : Int32) d13_37 rfl 39 rfl ?_
          refine own_icmp_eq X hx hby d13_39 54 42 (by decide) rfl (fun c39 => ?_) (fun c39 => ?_)
          · skip
            refine own_iconst X hx hby (1 : Int32) d13_54 rfl 55 rfl ?_
            refine own_goto X hx hby d13_55 59 (by decide) ?_
            refine own_retN X hx hby hret hlk (t := .boolean) (z' := (1 : Int32)) (by simp) d13_59 (by decide) (by decide) rfl ?_
            rw [eT]
            exact ⟨congrArg (fun z => some (Value.int z)) (by unfold f13; rw [if_neg c3, if_pos c9, if_pos c15, if_pos c27, if_pos c39]), N, rfl⟩
          · skip
            refine own_iloadN X hx hby p1 d13_42 rfl 43 rfl ?_
            refine own_bipush X hx hby (95 : Int32) d13_43 rfl 45 rfl ?_
            refine own_icmp_eq X hx hby d13_45 54 48 (by decide) rfl (fun c45 => ?_) (fun c45 => ?_)
            · skip
              refine own_iconst X hx hby (1 : Int32) d13_54 rfl 55 rfl ?_
              refine own_goto X hx hby d13_55 59 (by decide) ?_
              refine own_retN X hx hby hret hlk (t := .boolean) (z' := (1 : Int32)) (by simp) d13_59 (by decide) (by decide) rfl ?_
              rw [eT]
              exact ⟨congrArg (fun z => some (Value.int z)) (by unfold f13; rw [if_neg c3, if_pos c9, if_pos c15, if_pos c27, if_neg c39, if_pos c45]), N, rfl⟩
            · skip
              refine own_iloadN X hx hby p1 d13_48 rfl 49 rfl ?_
              refine own_bipush X hx hby (45 : Int32) d13_49 rfl 51 rfl ?_
              refine own_icmp_ne X hx hby d13_51 58 54 (by decide) rfl (fun c51 => ?_) (fun c51 => ?_)
              · skip
                refine own_iconst X hx hby (0 : Int32) d13_58 rfl 59 rfl ?_
                refine own_retN X hx hby hret hlk (t := .boolean) (z' := (0 : Int32)) (by simp) d13_59 (by decide) (by decide) rfl ?_
                rw [eT]
                exact ⟨congrArg (fun z => some (Value.int z)) (by unfold f13; rw [if_neg c3, if_pos c9, if_pos c15, if_pos c27, if_neg c39, if_neg c45, if_neg c51]), N, rfl⟩
              · skip
                refine own_iconst X hx hby (1 : Int32) d13_54 rfl 55 rfl ?_
                refine own_goto X hx hby d13_55 59 (by decide) ?_
                refine own_retN X hx hby hret hlk (t := .boolean) (z' := (1 : Int32)) (by simp) d13_59 (by decide) (by decide) rfl ?_
                rw [eT]
                exact ⟨congrArg (fun z => some (Value.int z)) (by unfold f13; rw [if_neg c3, if_pos c9, if_pos c15, if_pos c27, if_neg c39, if_neg c45, if_pos c51]), N, rfl⟩
        · skip
          refine own_iloadN X hx hby p1 d13_30 rfl 31 rfl ?_
          refine own_bipush X hx hby (57 : Int32) d13_31 rfl 33 rfl ?_
          refine own_icmp_le X hx hby d13_33 54 36 (by decide) rfl (fun c33 => ?_) (fun c33 => ?_)
          · skip
            refine own_iconst X hx hby (1 : Int32) d13_54 rfl 55 rfl ?_
            refine own_goto X hx hby d13_55 59 (by decide) ?_
            refine own_retN X hx hby hret hlk (t := .boolean) (z' := (1 : Int32)) (by simp) d13_59 (by decide) (by decide) rfl ?_
            rw [eT]
            exact ⟨congrArg (fun z => some (Value.int z)) (by unfold f13; rw [if_neg c3, if_pos c9, if_pos c15, if_neg c27, if_neg c33]), N, rfl⟩
          · skip
            refine own_iloadN X hx hby p1 d13_36 rfl 37 rfl ?_
            refine own_bipush X hx hby (46 : Int32) d13_37 rfl 39 rfl ?_
            refine own_icmp_eq X hx hby d13_39 54 42 (by decide) rfl (fun c39 => ?_) (fun c39 => ?_)
            · skip
              refine own_iconst X hx hby (1 : Int32) d13_54 rfl 55 rfl ?_
              refine own_goto X hx hby d13_55 59 (by decide) ?_
              refine own_retN X hx hby hret hlk (t := .boolean) (z' := (1 : Int32)) (by simp) d13_59 (by decide) (by decide) rfl ?_
              rw [eT]
              exact ⟨congrArg (fun z => some (Value.int z)) (by unfold f13; rw [if_neg c3, if_pos c9, if_pos c15, if_neg c27, if_pos c33, if_pos c39]), N, rfl⟩
            · skip
              refine own_iloadN X hx hby p1 d13_42 rfl 43 rfl ?_
              refine own_bipush X hx hby (95 : Int32) d13_43 rfl 45 rfl ?_
              refine own_icmp_eq X hx hby d13_45 54 48 (by decide) rfl (fun c45 => ?_) (fun c45 => ?_)
              · skip
                refine own_iconst X hx hby (1 : Int32) d13_54 rfl 55 rfl ?_
                refine own_goto X hx hby d13_55 59 (by decide) ?_
                refine own_retN X hx hby hret hlk (t := .boolean) (z' := (1 : Int32)) (by simp) d13_59 (by decide) (by decide) rfl ?_
                rw [eT]
                exact ⟨congrArg (fun z => some (Value.int z)) (by unfold f13; rw [if_neg c3, if_pos c9, if_pos c15, if_neg c27, if_pos c33, if_neg c39, if_pos c45]), N, rfl⟩
              · skip
                refine own_iloadN X hx hby p1 d13_48 rfl 49 rfl ?_
                refine own_bipush X hx hby (45 : Int32) d13_49 rfl 51 rfl ?_
                refine own_icmp_ne X hx hby d13_51 58 54 (by decide) rfl (fun c51 => ?_) (fun c51 => ?_)
                · skip
                  refine own_iconst X hx hby (0 : Int32) d13_58 rfl 59 rfl ?_
                  refine own_retN X hx hby hret hlk (t := .boolean) (z' := (0 : Int32)) (by simp) d13_59 (by decide) (by decide) rfl ?_
                  rw [eT]
                  exact ⟨congrArg (fun z => some (Value.int z)) (by unfold f13; rw [if_neg c3, if_pos c9, if_pos c15, if_neg c27, if_pos c33, if_neg c39, if_neg c45, if_neg c51]), N, rfl⟩
                · skip
                  refine own_iconst X hx hby (1 : Int32) d13_54 rfl 55 rfl ?_
                  refine own_goto X hx hby d13_55 59 (by decide) ?_
                  refine own_retN X hx hby hret hlk (t := .boolean) (z' := (1 : Int32)) (by simp) d13_59 (by decide) (by decide) rfl ?_
                  rw [eT]
                  exact ⟨congrArg (fun z => some (Value.int z)) (by unfold f13; rw [if_neg c3, if_pos c9, if_pos c15, if_neg c27, if_pos c33, if_neg c39, if_neg c45, if_pos c51]), N, rfl⟩
      · skip
        refine own_iloadN X hx hby p1 d13_18 rfl 19 rfl ?_
        refine own_bipush X hx hby (90 : Int32) d13_19 rfl 21 rfl ?_
        refine own_icmp_le X hx hby d13_21 54 24 (by decide) rfl (fun c21 => ?_) (fun c21 => ?_)
        · skip
          refine own_iconst X hx hby (1 : Int32) d13_54 rfl 55 rfl ?_
          refine own_goto X hx hby d13_55 59 (by decide) ?_
          refine own_retN X hx hby hret hlk (t := .boolean) (z' := (1 : Int32)) (by simp) d13_59 (by decide) (by decide) rfl ?_
          rw [eT]
          exact ⟨congrArg (fun z => some (Value.int z)) (by unfold f13; rw [if_neg c3, if_pos c9, if_neg c15, if_neg c21]), N, rfl⟩
        · skip
          refine own_iloadN X hx hby p1 d13_24 rfl 25 rfl ?_
          refine own_bipush X hx hby (48 : Int32) d13_25 rfl 27 rfl ?_
          refine own_icmp_lt X hx hby d13_27 36 30 (by decide) rfl (fun c27 => ?_) (fun c27 => ?_)
          · skip
            refine own_iloadN X hx hby p1 d13_36 rfl 37 rfl ?_
            refine own_bipush X hx hby (46 : Int32) d13_37 rfl 39 rfl ?_
            refine own_icmp_eq X hx hby d13_39 54 42 (by decide) rfl (fun c39 => ?_) (fun c39 => ?_)
            · skip
              refine own_iconst X hx hby (1 : Int32) d13_54 rfl 55 rfl ?_
              refine own_goto X hx hby d13_55 59 (by decide) ?_
              refine own_retN X hx hby hret hlk (t := .boolean) (z' := (1 : Int32)) (by simp) d13_59 (by decide) (by decide) rfl ?_
              rw [eT]
              exact ⟨congrArg (fun z => some (Value.int z)) (by unfold f13; rw [if_neg c3, if_pos c9, if_neg c15, if_pos c21, if_pos c27, if_pos c39]), N, rfl⟩
            · skip
              refine own_iloadN X hx hby p1 d13_42 rfl 43 rfl ?_
              refine own_bipush X hx hby (95 : Int32) d13_43 rfl 45 rfl ?_
              refine own_icmp_eq X hx hby d13_45 54 48 (by decide) rfl (fun c45 => ?_) (fun c45 => ?_)
              · skip
                refine own_iconst X hx hby (1 : Int32) d13_54 rfl 55 rfl ?_
                refine own_goto X hx hby d13_55 59 (by decide) ?_
                refine own_retN X hx hby hret hlk (t := .boolean) (z' := (1 : Int32)) (by simp) d13_59 (by decide) (by decide) rfl ?_
                rw [eT]
                exact ⟨congrArg (fun z => some (Value.int z)) (by unfold f13; rw [if_neg c3, if_pos c9, if_neg c15, if_pos c21, if_pos c27, if_neg c39, if_pos c45]), N, rfl⟩
              · skip
                refine own_iloadN X hx hby p1 d13_48 rfl 49 rfl ?_
                refine own_bipush X hx hby (45 : Int32) d13_49 rfl 51 rfl ?_
                refine own_icmp_ne X hx hby d13_51 58 54 (by decide) rfl (fun c51 => ?_) (fun c51 => ?_)
                · skip
                  refine own_iconst X hx hby (0 : Int32) d13_58 rfl 59 rfl ?_
                  refine own_retN X hx hby hret hlk (t := .boolean) (z' := (0 : Int32)) (by simp) d13_59 (by decide) (by decide) rfl ?_
                  rw [eT]
                  exact ⟨congrArg (fun z => some (Value.int z)) (by unfold f13; rw [if_neg c3, if_pos c9, if_neg c15, if_pos c21, if_pos c27, if_neg c39, if_neg c45, if_neg c51]), N, rfl⟩
                · skip
                  refine own_iconst X hx hby (1 : Int32) d13_54 rfl 55 rfl ?_
                  refine own_goto X hx hby d13_55 59 (by decide) ?_
                  refine own_retN X hx hby hret hlk (t := .boolean) (z' := (1 : Int32)) (by simp) d13_59 (by decide) (by decide) rfl ?_
                  rw [eT]
                  exact ⟨congrArg (fun z => some (Value.int z)) (by unfold f13; rw [if_neg c3, if_pos c9, if_neg c15, if_pos c21, if_pos c27, if_neg c39, if_neg c45, if_pos c51]), N, rfl⟩
          · skip
            refine own_iloadN X hx hby p1 d13_30 rfl 31 rfl ?_
            refine own_bipush X hx hby (57 : Int32) d13_31 rfl 33 rfl ?_
            refine own_icmp_le X hx hby d13_33 54 36 (by decide) rfl (fun c33 => ?_) (fun c33 => ?_)
            · skip
              refine own_iconst X hx hby (1 : Int32) d13_54 rfl 55 rfl ?_
              refine own_goto X hx hby d13_55 59 (by decide) ?_
              refine own_retN X hx hby hret hlk (t := .boolean) (z' := (1 : Int32)) (by simp) d13_59 (by decide) (by decide) rfl ?_
              rw [eT]
              exact ⟨congrArg (fun z => some (Value.int z)) (by unfold f13; rw [if_neg c3, if_pos c9, if_neg c15, if_pos c21, if_neg c27, if_neg c33]), N, rfl⟩
            · skip
              refine own_iloadN X hx hby p1 d13_36 rfl 37 rfl ?_
              refine own_bipush X hx hby (46 : Int32) d13_37 rfl 39 rfl ?_
              refine own_icmp_eq X hx hby d13_39 54 42 (by decide) rfl (fun c39 => ?_) (fun c39 => ?_)
              · skip
                refine own_iconst X hx hby (1 : Int32) d13_54 rfl 55 rfl ?_
                refine own_goto X hx hby d13_55 59 (by decide) ?_
                refine own_retN X hx hby hret hlk (t := .boolean) (z' := (1 : Int32)) (by simp) d13_59 (by decide) (by decide) rfl ?_
                rw [eT]
                exact ⟨congrArg (fun z => some (Value.int z)) (by unfold f13; rw [if_neg c3, if_pos c9, if_neg c15, if_pos c21, if_neg c27, if_pos c33, if_pos c39]), N, rfl⟩
              · skip
                refine own_iloadN X hx hby p1 d13_42 rfl 43 rfl ?_
                refine own_bipush X hx hby (95 : Int32) d13_43 rfl 45 rfl ?_
                refine own_icmp_eq X hx hby d13_45 54 48 (by decide) rfl (fun c45 => ?_) (fun c45 => ?_)
                · skip
                  refine own_iconst X hx hby (1 : Int32) d13_54 rfl 55 rfl ?_
                  refine own_goto X hx hby d13_55 59 (by decide) ?_
                  refine own_retN X hx hby hret hlk (t := .boolean) (z' := (1 : Int32)) (by simp) d13_59 (by decide) (by decide) rfl ?_
                  rw [eT]
                  exact ⟨congrArg (fun z => some (Value.int z)) (by unfold f13; rw [if_neg c3, if_pos c9, if_neg c15, if_pos c21, if_neg c27, if_pos c33, if_neg c39, if_pos c45]), N, rfl⟩
                · skip
                  refine own_iloadN X hx hby p1 d13_48 rfl 49 rfl ?_
                  refine own_bipush X hx hby (45 : Int32) d13_49 rfl 51 rfl ?_
                  refine own_icmp_ne X hx hby d13_51 58 54 (by decide) rfl (fun c51 => ?_) (fun c51 => ?_)
                  · skip
                    refine own_iconst X hx hby (0 : Int32) d13_58 rfl 59 rfl ?_
                    refine own_retN X hx hby hret hlk (t := .boolean) (z' := (0 : Int32)) (by simp) d13_59 (by decide) (by decide) rfl ?_
                    rw [eT]
                    exact ⟨congrArg (fun z => some (Value.int z)) (by unfold f13; rw [if_neg c3, if_pos c9, if_neg c15, if_pos c21, if_neg c27, if_pos c33, if_neg c39, if_neg c45, if_neg c51]), N, rfl⟩
                  · skip
                    refine own_iconst X hx hby (1 : Int32) d13_54 rfl 55 rfl ?_
                    refine own_goto X hx hby d13_55 59 (by decide) ?_
                    refine own_retN X hx hby hret hlk (t := .boolean) (z' := (1 : Int32)) (by simp) d13_59 (by decide) (by decide) rfl ?_
                    rw [eT]
                    exact ⟨congrArg (fun z => some (Value.int z)) (by unfold f13; rw [if_neg c3, if_pos c9, if_neg c15, if_pos c21, if_neg c27, if_pos c33, if_neg c39, if_neg c45, if_pos c51]), N, rfl⟩
theorem ef_4 (a1 : Addr) (m : MethodId) : entryFrame m #[(.ref a1)] 3 = mkF m 0 #[.val (.ref a1), .unset, .unset] [] := by first | (simp [entryFrame, mkF, argsToLocals, Value.category]; done) | rfl
def Q4 (Z : State) (a1 : Addr) (r1 : Addr) (ar_r1 : Nat → Int32) (u_COMPACT_STRINGS : Int32) (u_SIOOBE_FORMATTER : Value) (h0 : Heap) (n0 : Nat) (v : Option Value) (h : Heap) (L : List Loc) : Prop := v = none ∧ Fr n0 L ∧ h = h0
set_option maxRecDepth 65536 in
set_option maxHeartbeats 40000000 in
theorem rm4 (l : Launch) (Z : State) (a0 : Array Value) (hw : ∀ d ∈ tables_1, d.before a0 Z = true) (a1 : Addr) (r1 : Addr) (ar_r1 : Nat → Int32) (u_COMPACT_STRINGS : Int32) (u_SIOOBE_FORMATTER : Value) (h0 : Heap) (n0 : Nat) (Zs : n0 ≤ h0.size) (hcs : ¬ u_COMPACT_STRINGS = (0 : Int32)) (hsf : u_SIOOBE_FORMATTER.isRef = true) (ht : ar_r1 0 = (116 : Int32)) (A_r1 : Afi Z h0 r1 .byte 1 ar_r1) (F_value_a1 : Fld Z h0 a1 "java/lang/String" "value" "[B" (.ref r1)) (E_a1 : Exa Z h0 a1 "java/lang/String") (F_coder_a1 : Fld Z h0 a1 "java/lang/String" "coder" "B" (.int (0 : Int32))) (S_COMPACT_STRINGS : Sta Z h0 "java/lang/String" "COMPACT_STRINGS" "Z" (.int u_COMPACT_STRINGS)) (S_SIOOBE_FORMATTER : Sta Z h0 "jdk/internal/util/Preconditions" "SIOOBE_FORMATTER" "Ljava/util/function/BiFunction;" u_SIOOBE_FORMATTER) :
    Met1 l Z (⟨"com/example/enroll/enroll/catalogue/Topic", "checkName", "(Ljava/lang/String;)V"⟩ : MethodName) prog_20_method_5_code 3 none ({ frames := 4, cells := 0, slots := 0, locals := 53 } : Room) #[(.ref a1)] h0 (Q4 Z a1 r1 ar_r1 u_COMPACT_STRINGS u_SIOOBE_FORMATTER h0 n0) := by
  refine own_met_of (plainFor_of_name pn_13) (ef_4 a1) ?_
  intro p e s m below meth c s₁ X hx hby hml hZ hown hnm hret hlk eT
  have hown : s.vm.findClass "com/example/enroll/enroll/catalogue/Topic" = some m.cls := hown
  have N := Fr.nil n0
  refine own_aloadN X hx hby (.ref a1) d4_0 rfl rfl 1 rfl ?_
  refine own_callV X hx hby hZ (st := []) [] rfl hown (hw _ (List.mem_of_getElem? (i := 26) rfl)) (hw _ (List.mem_of_getElem? (i := 27) rfl)) (hw _ (List.mem_of_getElem? (i := 29) rfl)) (hw _ (List.mem_of_getElem? (i := 28) rfl)) (hw _ (List.mem_of_getElem? (i := 5) rfl)) (hw _ (List.mem_of_getElem? (i := 30) rfl)) E_a1 (by decide) d4_1 (rm5 l Z a0 hw a1 r1 ar_r1 h0 n0 Zs A_r1 F_value_a1) eT pd_3 rfl (by rw [hml]; rfl) (by decide) 0 rfl (by decide) (by decide) (by decide) 4 rfl ?_
  intro T1 L9 v9 X hQ
  obtain ⟨rfl, N9, eT⟩ := hQ
  have N := Fr.app N N9
  show Go p e below _ T1 (mkF m 4 #[.val (.ref a1), .unset, .unset] [(.int (0 : Int32))])
  have c4 : (0 : Int32) = (0 : Int32) := by decide
  refine own_if_ne X hx hby d4_4 17 7 (by decide) rfl (fun q => absurd c4 q) (fun _ => ?_)
  refine own_aloadN X hx hby (.ref a1) d4_7 rfl rfl 8 rfl ?_
  refine own_callV X hx hby hZ (st := []) [] rfl hown (hw _ (List.mem_of_getElem? (i := 32) rfl)) (hw _ (List.mem_of_getElem? (i := 33) rfl)) (hw _ (List.mem_of_getElem? (i := 35) rfl)) (hw _ (List.mem_of_getElem? (i := 34) rfl)) (hw _ (List.mem_of_getElem? (i := 5) rfl)) (hw _ (List.mem_of_getElem? (i := 36) rfl)) E_a1 (by decide) d4_8 (rm6 l Z a0 hw a1 r1 ar_r1 u_COMPACT_STRINGS h0 n0 Zs hcs A_r1 F_value_a1 F_coder_a1 S_COMPACT_STRINGS E_a1) eT pd_1 rfl (by rw [hml]; rfl) (by decide) 0 rfl (by decide) (by decide) (by decide) 11 rfl ?_
  intro T8 L9 v9 X hQ
  obtain ⟨rfl, N9, eT⟩ := hQ
  have N := Fr.app N N9
  show Go p e below _ T8 (mkF m 11 #[.val (.ref a1), .unset, .unset] [(.int (1 : Int32))])
  refine own_sipush X hx hby (249 : Int32) d4_11 rfl 14 rfl ?_
  have c14 : ¬ (249 : Int32) < (1 : Int32) := by decide
  refine own_icmp_le X hx hby d4_14 34 17 (by decide) rfl (fun _ => ?_) (fun q => absurd q c14)
  refine own_iconst X hx hby (0 : Int32) d4_34 rfl 35 rfl ?_
  refine own_istoreN X hx hby d4_35 rfl (l' := #[.val (.ref a1), .val (.int (0 : Int32)), .unset]) rfl 36 rfl ?_
  refine own_iloadN X hx hby (0 : Int32) d4_36 rfl 37 rfl ?_
  refine own_aloadN X hx hby (.ref a1) d4_37 rfl rfl 38 rfl ?_
  refine own_callV X hx hby hZ (st := [(.int (0 : Int32))]) [] rfl hown (hw _ (List.mem_of_getElem? (i := 32) rfl)) (hw _ (List.mem_of_getElem? (i := 33) rfl)) (hw _ (List.mem_of_getElem? (i := 35) rfl)) (hw _ (List.mem_of_getElem? (i := 34) rfl)) (hw _ (List.mem_of_getElem? (i := 5) rfl)) (hw _ (List.mem_of_getElem? (i := 36) rfl)) E_a1 (by decide) d4_38 (rm6 l Z a0 hw a1 r1 ar_r1 u_COMPACT_STRINGS h0 n0 Zs hcs A_r1 F_value_a1 F_coder_a1 S_COMPACT_STRINGS E_a1) eT pd_1 rfl (by rw [hml]; rfl) (by decide) 1 rfl (by decide) (by decide) (by decide) 41 rfl ?_
  intro T38 L9 v9 X hQ
  obtain ⟨rfl, N9, eT⟩ := hQ
  have N := Fr.app N N9
  show Go p e below _ T38 (mkF m 41 #[.val (.ref a1), .val (.int (0 : Int32)), .unset] [(.int (1 : Int32)), (.int (0 : Int32))])
  have c41 : (0 : Int32) < (1 : Int32) := by decide
  refine own_icmp_ge X hx hby d4_41 78 44 (by decide) rfl (fun q => absurd c41 q) (fun _ => ?_)
  refine own_aloadN X hx hby (.ref a1) d4_44 rfl rfl 45 rfl ?_
  refine own_iloadN X hx hby (0 : Int32) d4_45 rfl 46 rfl ?_
  refine own_callV X hx hby hZ (st := []) [(.int (0 : Int32))] rfl hown (hw _ (List.mem_of_getElem? (i := 44) rfl)) (hw _ (List.mem_of_getElem? (i := 45) rfl)) (hw _ (List.mem_of_getElem? (i := 47) rfl)) (hw _ (List.mem_of_getElem? (i := 46) rfl)) (hw _ (List.mem_of_getElem? (i := 5) rfl)) (hw _ (List.mem_of_getElem? (i := 48) rfl)) E_a1 (by decide) d4_46 (rm8 l Z a0 hw a1 r1 ar_r1 u_COMPACT_STRINGS u_SIOOBE_FORMATTER h0 n0 Zs hcs hsf A_r1 F_coder_a1 S_COMPACT_STRINGS E_a1 F_value_a1 S_SIOOBE_FORMATTER) eT pd_5 rfl (by rw [hml]; rfl) (by decide) 0 rfl (by decide) (by decide) (by decide) 49 rfl ?_
  intro T46 L9 v9 X hQ
  obtain ⟨rfl, N9, eT⟩ := hQ
  have N := Fr.app N N9
  show Go p e below _ T46 (mkF m 49 #[.val (.ref a1), .val (.int (0 : Int32)), .unset] [(.int (nar .char (nar .char (((ar_r1 0) &&& (255 : Int32)).toUInt32.toUInt16.toUInt32.toInt32))))])
  refine own_istoreN X hx hby d4_49 rfl (l' := #[.val (.ref a1), .val (.int (0 : Int32)), .val (.int (nar .char (nar .char (((ar_r1 0) &&& (255 : Int32)).toUInt32.toUInt16.toUInt32.toInt32))))]) rfl 50 rfl ?_
  refine own_iloadN X hx hby (nar .char (nar .char (((ar_r1 0) &&& (255 : Int32)).toUInt32.toUInt16.toUInt32.toInt32))) d4_50 rfl 51 rfl ?_
  refine own_callS X hx hby hZ (st := []) [(.int (nar .char (nar .char (((ar_r1 0) &&& (255 : Int32)).toUInt32.toUInt16.toUInt32.toInt32))))] rfl hown (hw _ (List.mem_of_getElem? (i := 66) rfl)) (hw _ (List.mem_of_getElem? (i := 67) rfl)) (hw _ (List.mem_of_getElem? (i := 3) rfl)) (hw _ (List.mem_of_getElem? (i := 68) rfl)) (by decide) d4_51 (rm13 l Z a0 hw (nar .char (nar .char (((ar_r1 0) &&& (255 : Int32)).toUInt32.toUInt16.toUInt32.toInt32))) h0 n0 Zs ) eT pd_4 rfl (by rw [hml]; rfl) (by decide) 0 rfl (by decide) (by decide) (by decide) 54 rfl ?_
  intro T51 L9 v9 X hQ
  obtain ⟨rfl, N9, eT⟩ := hQ
  have N := Fr.app N N9
  show Go p e below _ T51 (mkF m 54 #[.val (.ref a1), .val (.int (0 : Int32)), .val (.int (nar .char (nar .char (((ar_r1 0) &&& (255 : Int32)).toUInt32.toUInt16.toUInt32.toInt32))))] [(.int (f13 (nar .char (nar .char (((ar_r1 0) &&& (255 : Int32)).toUInt32.toUInt16.toUInt32.toInt32)))))])
  have c54 : ¬ (f13 (nar .char (nar .char (((ar_r1 0) &&& (255 : Int32)).toUInt32.toUInt16.toUInt32.toInt32)))) = (0 : Int32) := by rw [ht]; decide
  refine own_if_ne X hx hby d4_54 72 57 (by decide) rfl (fun _ => ?_) (fun q => absurd q c54)
  refine own_iinc X hx hby d4_72 (x := (0 : Int32)) rfl (by decide) (l' := #[.val (.ref a1), .val (.int (1 : Int32)), .val (.int (nar .char (nar .char (((ar_r1 0) &&& (255 : Int32)).toUInt32.toUInt16.toUInt32.toInt32))))]) rfl 75 rfl ?_
  refine own_goto X hx hby d4_75 36 (by decide) ?_
  refine own_iloadN X hx hby (1 : Int32) d4_36 rfl 37 rfl ?_
  refine own_aloadN X hx hby (.ref a1) d4_37 rfl rfl 38 rfl ?_
  refine own_callV X hx hby hZ (st := [(.int (1 : Int32))]) [] rfl hown (hw _ (List.mem_of_getElem? (i := 32) rfl)) (hw _ (List.mem_of_getElem? (i := 33) rfl)) (hw _ (List.mem_of_getElem? (i := 35) rfl)) (hw _ (List.mem_of_getElem? (i := 34) rfl)) (hw _ (List.mem_of_getElem? (i := 5) rfl)) (hw _ (List.mem_of_getElem? (i := 36) rfl)) E_a1 (by decide) d4_38 (rm6 l Z a0 hw a1 r1 ar_r1 u_COMPACT_STRINGS h0 n0 Zs hcs A_r1 F_value_a1 F_coder_a1 S_COMPACT_STRINGS E_a1) eT pd_1 rfl (by rw [hml]; rfl) (by decide) 1 rfl (by decide) (by decide) (by decide) 41 rfl ?_
  intro T38 L9 v9 X hQ
  obtain ⟨rfl, N9, eT⟩ := hQ
  have N := Fr.app N N9
  show Go p e below _ T38 (mkF m 41 #[.val (.ref a1), .val (.int (1 : Int32)), .val (.int (nar .char (nar .char (((ar_r1 0) &&& (255 : Int32)).toUInt32.toUInt16.toUInt32.toInt32))))] [(.int (1 : Int32)), (.int (1 : Int32))])
  have c41_2 : ¬ (1 : Int32) < (1 : Int32) := by decide
  refine own_icmp_ge X hx hby d4_41 78 44 (by decide) rfl (fun _ => ?_) (fun q => absurd q c41_2)
  refine own_ret X hx hby hret hlk d4_78 (by decide) (by decide) ?_
  rw [eT]
  exact ⟨rfl, N, rfl⟩
theorem ef_14 (a1 : Addr) (p2 : Int32) (m : MethodId) : entryFrame m #[(.ref a1), (.int p2)] 2 = mkF m 0 #[.val (.ref a1), .val (.int p2)] [] := by first | (simp [entryFrame, mkF, argsToLocals, Value.category]; done) | rfl
def f14 (p2 : Int32) (w_partitions_a1 : Int32) : Int32 := (if p2 < (0 : Int32) then (0 : Int32) else (if p2 < w_partitions_a1 then (1 : Int32) else (0 : Int32)))
def Q14 (Z : State) (a1 : Addr) (p2 : Int32) (w_partitions_a1 : Int32) (h0 : Heap) (n0 : Nat) (v : Option Value) (h : Heap) (L : List Loc) : Prop := v = some (.int (f14 p2 w_partitions_a1)) ∧ Fr n0 L ∧ h = h0
set_option maxRecDepth 65536 in
set_option maxHeartbeats 40000000 in
theorem rm14 (l : Launch) (Z : State) (a0 : Array Value) (hw : ∀ d ∈ tables_1, d.before a0 Z = true) (a1 : Addr) (p2 : Int32) (w_partitions_a1 : Int32) (h0 : Heap) (n0 : Nat) (Zs : n0 ≤ h0.size) (F_partitions_a1 : Fld Z h0 a1 "com/example/enroll/enroll/catalogue/Topic" "partitions" "I" (.int w_partitions_a1)) :
    Met1 l Z (⟨"com/example/enroll/enroll/catalogue/Topic", "hasPartition", "(I)Z"⟩ : MethodName) prog_20_method_4_code 2 (some .boolean) ({ frames := 0, cells := 0, slots := 0, locals := 0 } : Room) #[(.ref a1), (.int p2)] h0 (Q14 Z a1 p2 w_partitions_a1 h0 n0) := by
  refine own_met_of (plainFor_of_name pn_13) (ef_14 a1 p2) ?_
  intro p e s m below meth c s₁ X hx hby hml hZ hown hnm hret hlk eT
  have hown : s.vm.findClass "com/example/enroll/enroll/catalogue/Topic" = some m.cls := hown
  have N := Fr.nil n0
  refine own_iloadN X hx hby p2 d14_0 rfl 1 rfl ?_
  refine own_if_lt X hx hby d14_1 16 4 (by decide) rfl (fun c1 => ?_) (fun c1 => ?_)
  · skip
    refine own_iconst X hx hby (0 : Int32) d14_16 rfl 17 rfl ?_
    refine own_retN X hx hby hret hlk (t := .boolean) (z' := (0 : Int32)) (by simp) d14_17 (by decide) (by decide) rfl ?_
    rw [eT]
    exact ⟨congrArg (fun z => some (Value.int z)) (by unfold f14; rw [if_pos c1]), N, rfl⟩
  · skip
    refine own_iloadN X hx hby p2 d14_4 rfl 5 rfl ?_
    refine own_aloadN X hx hby (.ref a1) d14_5 rfl rfl 6 rfl ?_
    refine own_getF X hx hby hZ hown (host := "") (Or.inl (hw _ (List.mem_of_getElem? (i := 71) rfl))) Via.refl eT F_partitions_a1 d14_6 9 rfl ?_
    intro T6 X eT
    refine own_icmp_ge X hx hby d14_9 16 12 (by decide) rfl (fun c9 => ?_) (fun c9 => ?_)
    · skip
      refine own_iconst X hx hby (0 : Int32) d14_16 rfl 17 rfl ?_
      refine own_retN X hx hby hret hlk (t := .boolean) (z' := (0 : Int32)) (by simp) d14_17 (by decide) (by decide) rfl ?_
      rw [eT]
      exact ⟨congrArg (fun z => some (Value.int z)) (by unfold f14; rw [if_neg c1, if_neg c9]), N, rfl⟩
    · skip
      refine own_iconst X hx hby (1 : Int32) d14_12 rfl 13 rfl ?_
      refine own_goto X hx hby d14_13 17 (by decide) ?_
      refine own_retN X hx hby hret hlk (t := .boolean) (z' := (1 : Int32)) (by simp) d14_17 (by decide) (by decide) rfl ?_
      rw [eT]
      exact ⟨congrArg (fun z => some (Value.int z)) (by unfold f14; rw [if_neg c1, if_pos c9]), N, rfl⟩
theorem ef_1 (a1 : Addr) (a2 : Addr) (p3 : Int32) (m : MethodId) : entryFrame m #[(.ref a1), (.ref a2), (.int p3)] 3 = mkF m 0 #[.val (.ref a1), .val (.ref a2), .val (.int p3)] [] := by first | (simp [entryFrame, mkF, argsToLocals, Value.category]; done) | rfl
def Q1 (Z : State) (a1 : Addr) (a2 : Addr) (p3 : Int32) (r1 : Addr) (ar_r1 : Nat → Int32) (u_COMPACT_STRINGS : Int32) (u_SIOOBE_FORMATTER : Value) (h0 : Heap) (n0 : Nat) (v : Option Value) (h : Heap) (L : List Loc) : Prop := v = none ∧ Fr n0 L ∧ Keep h0 h [a1] ∧ Exa Z h a1 "com/example/enroll/enroll/catalogue/Topic" ∧ Fld Z h a1 "com/example/enroll/enroll/catalogue/Topic" "name" "Ljava/lang/String;" (.ref a2) ∧ Fld Z h a1 "com/example/enroll/enroll/catalogue/Topic" "partitions" "I" (.int p3)
set_option maxRecDepth 65536 in
set_option maxHeartbeats 40000000 in
theorem rm1 (l : Launch) (Z : State) (a0 : Array Value) (hw : ∀ d ∈ tables_1, d.before a0 Z = true) (a1 : Addr) (a2 : Addr) (p3 : Int32) (r1 : Addr) (ar_r1 : Nat → Int32) (u_COMPACT_STRINGS : Int32) (u_SIOOBE_FORMATTER : Value) (h0 : Heap) (n0 : Nat) (Zs : n0 ≤ h0.size) (hcs : ¬ u_COMPACT_STRINGS = (0 : Int32)) (hsf : u_SIOOBE_FORMATTER.isRef = true) (ht : ar_r1 0 = (116 : Int32)) (hlo : ¬ p3 < (1 : Int32)) (hhi : ¬ (10000 : Int32) < p3) (A_r1 : Afi Z h0 r1 .byte 1 ar_r1) (E_a1 : Exa Z h0 a1 "com/example/enroll/enroll/catalogue/Topic") (F_name_a1 : Fld Z h0 a1 "com/example/enroll/enroll/catalogue/Topic" "name" "Ljava/lang/String;" .null) (F_partitions_a1 : Fld Z h0 a1 "com/example/enroll/enroll/catalogue/Topic" "partitions" "I" (.int (0 : Int32))) (g_a1 : n0 ≤ a1) (S_COMPACT_STRINGS : Sta Z h0 "java/lang/String" "COMPACT_STRINGS" "Z" (.int u_COMPACT_STRINGS)) (S_SIOOBE_FORMATTER : Sta Z h0 "jdk/internal/util/Preconditions" "SIOOBE_FORMATTER" "Ljava/util/function/BiFunction;" u_SIOOBE_FORMATTER) (E_a2 : Exa Z h0 a2 "java/lang/String") (F_value_a2 : Fld Z h0 a2 "java/lang/String" "value" "[B" (.ref r1)) (F_coder_a2 : Fld Z h0 a2 "java/lang/String" "coder" "B" (.int (0 : Int32))) :
    Met1W l Z (⟨"com/example/enroll/enroll/catalogue/Topic", "<init>", "(Ljava/lang/String;I)V"⟩ : MethodName) prog_20_method_1_code 3 none ({ frames := 5, cells := 2, slots := 20, locals := 67 } : Room) #[(.ref a1), (.ref a2), (.int p3)] h0 (Q1 Z a1 a2 p3 r1 ar_r1 u_COMPACT_STRINGS u_SIOOBE_FORMATTER h0 n0) := by
  refine own_met_ofW (plainFor_of_name pn_13) (ef_1 a1 a2 p3) ?_
  intro p e s m below meth c s₁ vm0 X hx hby hml hZ hown hnm hret hlk eT hS hs0
  have hown : (s.setVm vm0).vm.findClass "com/example/enroll/enroll/catalogue/Topic" = some m.cls := hown
  have hk : 0 ≤ h0.size := Nat.zero_le _
  have N := Fr.nil n0
  have K := Keep.refl h0 [a1]
  have ne_a1_a2 : a1 ≠ a2 := ne_exa E_a1 E_a2 (by decide)
  refine own_aloadN X hx hby (.ref a1) d1_0 rfl rfl 1 rfl ?_
  refine own_initO X hx hby hZ hown (hw _ (List.mem_of_getElem? (i := 15) rfl)) (hw _ (List.mem_of_getElem? (i := 16) rfl)) (hw _ (List.mem_of_getElem? (i := 17) rfl)) eT (by rw [hml]; rfl) d1_1 (by decide) 0 rfl (by decide) 4 rfl ?_
  intro T1 X eT
  refine own_aloadN X hx hby (.ref a2) d1_4 rfl rfl 5 rfl ?_
  refine own_ldcS X hx hby hZ hown (hw _ (List.mem_of_getElem? (i := 18) rfl)) (own_wS hw) eT hS hk d1_5 16 (by decide) (by decide) (by decide) (by decide) 7 rfl ?_
  intro T5 h5 lit5 vm5 k5 X eT Ex hS hk hZ hown
  have A_r1 := A_r1.ext Ex
  have E_a1 := E_a1.ext Ex
  have F_name_a1 := F_name_a1.ext Ex
  have F_partitions_a1 := F_partitions_a1.ext Ex
  have S_COMPACT_STRINGS := S_COMPACT_STRINGS.ext Ex
  have S_SIOOBE_FORMATTER := S_SIOOBE_FORMATTER.ext Ex
  have E_a2 := E_a2.ext Ex
  have F_value_a2 := F_value_a2.ext Ex
  have F_coder_a2 := F_coder_a2.ext Ex
  have K := K.ext Ex
  have Zs := Nat.le_trans Zs Ex.1
  refine own_callS X hx hby hZ (st := []) [(.ref a2), (.ref lit5)] rfl hown (hw _ (List.mem_of_getElem? (i := 19) rfl)) (hw _ (List.mem_of_getElem? (i := 20) rfl)) (hw _ (List.mem_of_getElem? (i := 21) rfl)) (hw _ (List.mem_of_getElem? (i := 22) rfl)) (by decide) d1_7 (rm3 l Z a0 hw a2 lit5 h5 n0 Zs ) eT pd_9 rfl (by rw [hml]; rfl) (by decide) 0 rfl (by decide) (by decide) (by decide) 10 rfl ?_
  intro T7 L9 v9 X hQ
  obtain ⟨rfl, N9, eT⟩ := hQ
  have N := Fr.app N N9
  show Go p e below _ T7 (mkF m 10 #[.val (.ref a1), .val (.ref a2), .val (.int p3)] [(.ref a2)])
  refine own_pop X hx hby d1_10 rfl 11 rfl ?_
  refine own_aloadN X hx hby (.ref a2) d1_11 rfl rfl 12 rfl ?_
  refine own_callS X hx hby hZ (st := []) [(.ref a2)] rfl hown (hw _ (List.mem_of_getElem? (i := 23) rfl)) (hw _ (List.mem_of_getElem? (i := 24) rfl)) (hw _ (List.mem_of_getElem? (i := 3) rfl)) (hw _ (List.mem_of_getElem? (i := 25) rfl)) (by decide) d1_12 (rm4 l Z a0 hw a2 r1 ar_r1 u_COMPACT_STRINGS u_SIOOBE_FORMATTER h5 n0 Zs hcs hsf ht A_r1 F_value_a2 E_a2 F_coder_a2 S_COMPACT_STRINGS S_SIOOBE_FORMATTER) eT pd_10 rfl (by rw [hml]; rfl) (by decide) 0 rfl (by decide) (by decide) (by decide) 15 rfl ?_
  intro T12 L9 v9 X hQ
  obtain ⟨rfl, N9, eT⟩ := hQ
  have N := Fr.app N N9
  show Go p e below _ T12 (mkF m 15 #[.val (.ref a1), .val (.ref a2), .val (.int p3)] [])
  refine own_iloadN X hx hby p3 d1_15 rfl 16 rfl ?_
  refine own_iconst X hx hby (1 : Int32) d1_16 rfl 17 rfl ?_
  have c17 : ¬ p3 < (1 : Int32) := hlo
  refine own_icmp_lt X hx hby d1_17 27 20 (by decide) rfl (fun q => absurd q c17) (fun _ => ?_)
  refine own_iloadN X hx hby p3 d1_20 rfl 21 rfl ?_
  refine own_sipush X hx hby (10000 : Int32) d1_21 rfl 24 rfl ?_
  have c24 : ¬ (10000 : Int32) < p3 := hhi
  refine own_icmp_le X hx hby d1_24 41 27 (by decide) rfl (fun _ => ?_) (fun q => absurd q c24)
  refine own_aloadN X hx hby (.ref a1) d1_41 rfl rfl 42 rfl ?_
  refine own_aloadN X hx hby (.ref a2) d1_42 rfl rfl 43 rfl ?_
  refine own_putF X hx hby hZ hown (host := "") (Or.inl (hw _ (List.mem_of_getElem? (i := 69) rfl))) Via.refl eT F_name_a1 E_a1 (Or.inr ⟨(hw _ (List.mem_of_getElem? (i := 70) rfl)), rfl, hnm⟩) (hw _ (List.mem_of_getElem? (i := 2) rfl)) (ty := (.object "java/lang/String")) (by decide) rfl rfl d1_43 46 rfl ?_
  intro T43 h43 X eT W
  have hk := Nat.le_trans hk (Keep.of_wr W).1
  have E_a1 := E_a1.wr W
  have F_name_a1 := F_name_a1.same W
  have F_partitions_a1 := F_partitions_a1.other W (Or.inr (slot_ne (Or.inr (hw _ (List.mem_of_getElem? (i := 72) rfl))) (Or.inr (hw _ (List.mem_of_getElem? (i := 70) rfl))) (by decide) (t := .int) (t' := (.object "java/lang/String")) (by decide) (by decide)))
  have E_a2 := E_a2.wr W
  have F_value_a2 := F_value_a2.other W (Or.inl (Ne.symm ne_a1_a2))
  have F_coder_a2 := F_coder_a2.other W (Or.inl (Ne.symm ne_a1_a2))
  have N := Fr.snoc X N g_a1
  have K := K.wr W (Or.inl (List.mem_of_getElem? (i := 0) rfl))
  have Zs := Nat.le_trans Zs (Keep.of_wr W).1
  refine own_aloadN X hx hby (.ref a1) d1_46 rfl rfl 47 rfl ?_
  refine own_iloadN X hx hby p3 d1_47 rfl 48 rfl ?_
  refine own_putF X hx hby hZ hown (host := "") (Or.inl (hw _ (List.mem_of_getElem? (i := 71) rfl))) Via.refl eT F_partitions_a1 E_a1 (Or.inr ⟨(hw _ (List.mem_of_getElem? (i := 72) rfl)), rfl, hnm⟩) (hw _ (List.mem_of_getElem? (i := 2) rfl)) (ty := .int) (by decide) rfl rfl d1_48 51 rfl ?_
  intro T48 h48 X eT W
  have hk := Nat.le_trans hk (Keep.of_wr W).1
  have E_a1 := E_a1.wr W
  have F_name_a1 := F_name_a1.other W (Or.inr (slot_ne (Or.inr (hw _ (List.mem_of_getElem? (i := 70) rfl))) (Or.inr (hw _ (List.mem_of_getElem? (i := 72) rfl))) (by decide) (t := (.object "java/lang/String")) (t' := .int) (by decide) (by decide)))
  have F_partitions_a1 := F_partitions_a1.same W
  have E_a2 := E_a2.wr W
  have F_value_a2 := F_value_a2.other W (Or.inl (Ne.symm ne_a1_a2))
  have F_coder_a2 := F_coder_a2.other W (Or.inl (Ne.symm ne_a1_a2))
  have N := Fr.snoc X N g_a1
  have K := K.wr W (Or.inl (List.mem_of_getElem? (i := 0) rfl))
  have Zs := Nat.le_trans Zs (Keep.of_wr W).1
  refine own_retW X hx hby hS (by rw [eT]; exact hk) hret hlk d1_51 (by decide) (by decide) ?_
  rw [eT]
  exact ⟨rfl, N, K, E_a1, F_name_a1, F_partitions_a1⟩
section OwnText
variable {p : Program} {l : Launch} {e : Env} {R : Room} {s : State} {m : MethodId} {args : Array Value} {below : List Frame} {meth : Method} {c : Code} {T T' : State} {locs : List Loc} {cells slots : Nat} {G : State → Outcome → Prop} {Ls : Array Slot} {st : List Value} {pc : Nat} {bs : ByteArray} {Z : State} {a0 : Array Value} {h : Heap} {vm0 : Vm}
/-- a wide body that starts with the start's own table of interned texts -/
def Met1T (l : Launch) (Z : State) (y : MethodName) (bytes : ByteArray) (maxL : Nat) (rt : Option FieldType) (rm : Room) (as : Array Value) (h0 : Heap) (Q : Option Value → Heap → List Loc → Prop) : Prop :=
  ∀ ws : List Jvm.Cond, MetFree l y (head1 (Jvm.Cond.code y bytes maxL rt :: ws) rm) (fun a U => a = as ∧ Z.Warmed39 U.vm ∧ U.heap = h0 ∧ U.vm.interned = Z.vm.interned) (fun _ _ _ _ _ => True)
    (fun _ U o U' => ∃ v L, o = .returned v ∧ Q v U'.heap L ∧ ReturnedEndW U o U' L rm.cells rm.slots)
theorem own_met_ofT {Z : State} {y : MethodName} {bytes : ByteArray} {maxL : Nat} {rt : Option FieldType} {rm : Room} {as : Array Value} {h0 : Heap} {Q : Option Value → Heap → List Loc → Prop} {Ls0 : Array Slot} (hpl : plainFor y = true) (ef : ∀ m, entryFrame m as maxL = mkF m 0 Ls0 [])
    (body : ∀ (p : Program) (e : Env) (s : State) (m : MethodId) (below : List Frame) (meth : Method) (c : Code) (s₁ : State) (vm0 : Vm), Stand p l e rm (s.setVm vm0) m as below meth c s₁ [] 0 0 → p.tables.exec = Jvm.exec → c.code = bytes → c.maxLocals = maxL → Z.Warmed39 (s.setVm vm0).vm → (s.setVm vm0).vm.findClass y.cls = some m.cls → meth.name = y.name → meth.sig.returnType = rt → meth.locks = false → s₁.heap = h0 → s.Since vm0 0 → s.heap = h0 → vm0.interned = Z.vm.interned →
      Go p e below (FinW s Q rm.cells rm.slots) s₁ (mkF m 0 Ls0 [])) : Met1T l Z y bytes maxL rt rm as h0 Q := by
  intro ws
  refine MetFree.of_bodySF hpl hisR ?_
  intro p e s m args below meth c s₁ Bd hml0 hP hK
  obtain ⟨rfl, hZ, hh, hI⟩ := hP
  have k := body p e s m below meth c s₁ s.vm (Stand.of_body Bd) Bd.exec Bd.bytes hml0 hZ (findClass_of_methodNamed Bd.named) (name_of_methodNamed Bd.named Bd.method).1 Bd.returns Bd.notSynchronized (by rw [← hh, Bd.state]; rfl) ((State.WarmedH.refl s).since 0) hh hI
  rw [← ef m] at k
  exact k
theorem own_ldcT (X : Stand p l e R (s.setVm vm0) m args below meth c T locs cells slots) (hx : p.tables.exec = Jvm.exec) (hby : c.code = bs) (hZ : Z.Warmed39 (s.setVm vm0).vm) {own text : String} {idx k0 n0 : Nat} (hown : (s.setVm vm0).vm.findClass own = some m.cls) (w : (Jvm.Cond.stringLink own idx text).before a0 Z = true) (wS : ∀ a ∈ Bundle.stringAtoms, a.before a0 Z = true) (eT : T.heap = h) (hS : s.Since vm0 k0) (hk : k0 ≤ h.size) (N : Fr n0 locs) (hn0 : n0 = s.heap.size) (hZs : s.heap = Z.heap) (hI : vm0.interned = Z.vm.interned) (hh : Jvm.Lit.constHeld Z own idx) (hcw : Jvm.Lit.compactW.before a0 Z = true)
    {vs : List Value} {z : Int32} (ht : (∀ c ∈ text.toList, c.toNat < 256) ∧ text.toList.map (fun c => Value.int (Jvm.Lit.byteI c.toNat.toUInt16)) = vs) (hz : ¬ z < 0) (hl : z.toNatClampNeg = vs.length) (hd : decode bs pc = .ok (.ldc idx, 2)) {n : Nat} (hn : 4 * text.toList.length ≤ n) (hbig : n ≤ 536870912) (hc : cells + 2 ≤ R.cells) (hl' : slots + (n + 4) ≤ R.slots) (pc' : Nat) (hp : pc + 2 = pc')
    (k : ∀ (T' : State) (h' : Heap) (a b : Addr) (vm1 : Vm) (k1 : Nat), Stand p l e R (s.setVm vm1) m args below meth c T' locs (cells + 2) (slots + (n + 4)) → T'.heap = h' → Ext h h' → s.Since vm1 k1 → k1 ≤ h'.size → Z.Warmed39 (s.setVm vm1).vm → (s.setVm vm1).vm.findClass own = some m.cls → Exa Z h' a "java/lang/String" → Fld Z h' a "java/lang/String" "coder" "B" (.int 0) → Fld Z h' a "java/lang/String" "value" "[B" (.ref b) → Afn Z h' b .byte z.toNatClampNeg (fun i => vs.getD i (.int 0)) → Go p e below G T' (mkF m pc' Ls (.ref a :: st))) : Go p e below G T (mkF m pc Ls st) := by
  subst hp hn0
  obtain ⟨a, T1, h1, k1, b, kk, X1, e1, E1, S1, g1, Z1, o1, q1, q2, q3, q4, -, -, -, st1⟩ := ldcSV X hx hZ hown w wS eT hS hk N (fun b cl q => by rw [hZs]; exact q) (Ts := []) ⟨#[], by rw [hI]; simp, fun q hq => by simp at hq⟩ (by simp) hh hcw ht hz hl (g := mkF m pc Ls st) rfl (hb hby hd) hn hbig hc hl'
  exact Go.by (fun t q => st1 t q) (k T1 h1 a b T1.vm k1 X1 e1 E1 S1 g1 Z1 o1 q1 q2 q3 (own_ofArv q4 rfl))
end OwnText

theorem ef_0 (p1 : Int32) (p2 : Int32) (p3 : Int32) (m : MethodId) : entryFrame m #[(.int p1), (.int p2), (.int p3)] maxLocals = mkF m 0 #[.val (.int p1), .val (.int p2), .val (.int p3), .unset, .unset, .unset, .unset, .unset, .unset, .unset] [] := by first | (simp [entryFrame, mkF, argsToLocals, Value.category, maxLocals]; done) | rfl
def Q0 (Z : State) (p1 : Int32) (p2 : Int32) (p3 : Int32) (u_COMPACT_STRINGS : Int32) (u_SIOOBE_FORMATTER : Value) (h0 : Heap) (n0 : Nat) (v : Option Value) (h : Heap) (L : List Loc) : Prop := v = some (.int (1 : Int32)) ∧ Fr n0 L
theorem own_t1 : (∀ c ∈ "t".toList, c.toNat < 256) ∧ "t".toList.map (fun c => Value.int (Jvm.Lit.byteI c.toNat.toUInt16)) = [.int 116] := by decide +kernel
theorem own_t3 : 4 * "t".toList.length ≤ 4 := by decide +kernel
theorem own_p (x v : Int32) (e : (((x &&& (2147483647 : Int32)) % (10000 : Int32)) + (1 : Int32)) = v) : 1 ≤ v.toInt ∧ v.toInt ≤ 10000 := by
  have h := c_mask x (2147483647 : Int32) 31 (by decide) (by decide)
  have h1 := c_irem (x &&& (2147483647 : Int32)) (10000 : Int32) 10000 (by decide)
  have h2 := h1.1 (by omega)
  clear h1
  have h3 := c_iadd ((x &&& (2147483647 : Int32)) % (10000 : Int32)) (1 : Int32)
  rw [e] at h3
  have h4 := rng32 v
  have q : (1 : Int32).toInt = 1 := rfl
  rw [q] at h3
  omega
theorem own_lo (v : Int32) (h : 1 ≤ v.toInt ∧ v.toInt ≤ 10000) : ¬ v < (1 : Int32) := by
  rw [Int32.lt_iff_toInt_lt]
  have q : (1 : Int32).toInt = 1 := rfl
  omega
theorem own_hi (v : Int32) (h : 1 ≤ v.toInt ∧ v.toInt ≤ 10000) : ¬ (10000 : Int32) < v := by
  rw [Int32.lt_iff_toInt_lt]
  have q : (10000 : Int32).toInt = 10000 := rfl
  omega
theorem own_law (v j j2 : Int32) (li : Int64) (h : 1 ≤ v.toInt ∧ v.toInt ≤ 10000) (e1 : j.toInt64 = li) (ej : j2 = (if li < (0 : Int64) then (0 : Int32) else (if (v.toInt64 - (1 : Int64)) < li then (0 : Int32) else (1 : Int32)))) : f14 j v = j2 := by
  have a1 := c_i2l j
  have a2 := c_i2l v
  have a3 := c_lsub v.toInt64 (1 : Int64)
  have a4 := rng64 (v.toInt64 - (1 : Int64))
  have q1 : (1 : Int64).toInt = 1 := rfl
  have a5 : (v.toInt64 - (1 : Int64)).toInt = v.toInt - 1 := by rw [q1] at a3; omega
  rw [e1] at a1
  rw [ej]
  clear ej a3 a4
  unfold f14
  simp only [Int32.lt_iff_toInt_lt, Int64.lt_iff_toInt_lt, Int32.reduceToInt, Int64.reduceToInt, a5]
  repeat' split
  all_goals first | rfl | (exfalso; omega)
theorem own_cs {args : Array Value} {s : State} {u : Int32} (ev : (Term.static "java/lang/String" "COMPACT_STRINGS" "Z").eval args s none [] s = some (.int u)) (h : Jvm.Lit.compactW.before args s = true) : ¬ u = (0 : Int32) := by
  intro q
  subst q
  have h1 := Cond.before_iff.mp h
  simp [Jvm.Lit.compactW, Cond.value, ev, Term.int_eval] at h1
set_option maxRecDepth 65536 in
set_option maxHeartbeats 40000000 in
theorem rm0 (l : Launch) (Z : State) (a0 : Array Value) (hw : ∀ d ∈ tables_1, d.before a0 Z = true) (p1 : Int32) (p2 : Int32) (p3 : Int32) (u_COMPACT_STRINGS : Int32) (u_SIOOBE_FORMATTER : Value) (h0 : Heap) (n0 : Nat) (Zs : n0 ≤ h0.size) (hcs : ¬ u_COMPACT_STRINGS = (0 : Int32)) (hsf : u_SIOOBE_FORMATTER.isRef = true) (hn0 : n0 = h0.size) (hZ0 : h0 = Z.heap) (hh : Jvm.Lit.constHeld Z "com/example/enroll/enroll/catalogue/TopicHasPartitionPinLaw" 10) (hcw : Jvm.Lit.compactW.before a0 Z = true) (S_COMPACT_STRINGS : Sta Z h0 "java/lang/String" "COMPACT_STRINGS" "Z" (.int u_COMPACT_STRINGS)) (S_SIOOBE_FORMATTER : Sta Z h0 "jdk/internal/util/Preconditions" "SIOOBE_FORMATTER" "Ljava/util/function/BiFunction;" u_SIOOBE_FORMATTER) :
    Met1T l Z x code maxLocals ret room_1 #[(.int p1), (.int p2), (.int p3)] h0 (Q0 Z p1 p2 p3 u_COMPACT_STRINGS u_SIOOBE_FORMATTER h0 n0) := by
  refine own_met_ofT (plainFor_of_name pn_0) (ef_0 p1 p2 p3) ?_
  intro p e s m below meth c s₁ vm0 X hx hby hml hZ hown hnm hret hlk eT hS hs0 hI
  have hown : (s.setVm vm0).vm.findClass "com/example/enroll/enroll/catalogue/TopicHasPartitionPinLaw" = some m.cls := hown
  have hk : 0 ≤ h0.size := Nat.zero_le _
  have N := Fr.nil n0
  have K := Keep.refl h0 []
  refine own_iloadN X hx hby p1 at_0 rfl 1 rfl ?_
  refine own_ldc X hx hby hZ (2147483647 : Int32) hown (hw _ (List.mem_of_getElem? (i := 0) rfl)) at_1 3 rfl ?_
  refine own_iand X hx hby at_3 4 rfl ?_
  refine own_sipush X hx hby (10000 : Int32) at_4 rfl 7 rfl ?_
  refine own_irem X hx hby at_7 (by decide) 8 rfl ?_
  refine own_iconst X hx hby (1 : Int32) at_8 rfl 9 rfl ?_
  refine own_iadd X hx hby at_9 10 rfl ?_
  obtain ⟨v10, e10⟩ : ∃ z : Int32, (((p1 &&& (2147483647 : Int32)) % (10000 : Int32)) + (1 : Int32)) = z := ⟨_, rfl⟩
  refine own_istoreN X hx hby at_10 e10 (l' := #[.val (.int p1), .val (.int p2), .val (.int p3), .val (.int v10), .unset, .unset, .unset, .unset, .unset, .unset]) rfl 11 rfl ?_
  refine own_new X hx hby hZ hown (hw _ (List.mem_of_getElem? (i := 1) rfl)) (hw _ (List.mem_of_getElem? (i := 2) rfl)) (hw _ (List.mem_of_getElem? (i := 3) rfl)) eT at_11 (by decide) (by decide) 14 rfl ?_
  intro T11 h11 b11 gb11 X eT Ex A D
  have g_b11 : n0 ≤ b11 := by rw [gb11]; exact Zs
  have sz_b11 : h0.size ≤ b11 := by rw [gb11]; exact K.1
  have hk := Nat.le_trans hk Ex.1
  have E_b11 := A
  have F_name_b11 : Fld Z h11 b11 "com/example/enroll/enroll/catalogue/Topic" "name" "Ljava/lang/String;" .null := D (Or.inr (hw _ (List.mem_of_getElem? (i := 70) rfl))) (ty := (.object "java/lang/String")) (by decide)
  have F_partitions_b11 : Fld Z h11 b11 "com/example/enroll/enroll/catalogue/Topic" "partitions" "I" (.int (0 : Int32)) := D (Or.inr (hw _ (List.mem_of_getElem? (i := 72) rfl))) (ty := .int) (by decide)
  have K := K.ext Ex
  have Zs := Nat.le_trans Zs Ex.1
  refine own_dup X hx hby at_14 rfl 15 rfl ?_
  refine own_ldcT X hx hby hZ hown (hw _ (List.mem_of_getElem? (i := 4) rfl)) (own_wS hw) eT hS hk N (by rw [hs0]; exact hn0) (by rw [hs0]; exact hZ0) hI hh hcw (vs := [.int 116]) (z := 1) own_t1 (by decide) rfl at_15 (n := 4) own_t3 (by decide) (by decide) (by decide) 17 rfl ?_
  intro T15 h15 a15 r15 vm15 k15 X eT Ex hS hk hZ hown Es Fc Fv As
  have E_b11 := E_b11.ext Ex
  have F_name_b11 := F_name_b11.ext Ex
  have F_partitions_b11 := F_partitions_b11.ext Ex
  have K := K.ext Ex
  have Zs := Nat.le_trans Zs Ex.1
  have A_r15 : Afi Z h15 r15 .byte 1 (fun _ => (116 : Int32)) := As.to fun i hi => by have q : i = 0 := Nat.lt_one_iff.mp hi; subst q; rfl
  refine own_iloadN X hx hby v10 at_17 rfl 18 rfl ?_
  refine own_callCW X hx hby hZ (st := [(.ref b11)]) [(.ref a15), (.int v10)] rfl rfl hown hS hk (hw _ (List.mem_of_getElem? (i := 12) rfl)) (hw _ (List.mem_of_getElem? (i := 13) rfl)) (hw _ (List.mem_of_getElem? (i := 3) rfl)) (hw _ (List.mem_of_getElem? (i := 14) rfl)) (by decide) at_18 (rm1 l Z a0 hw b11 a15 v10 r15 (fun _ => (116 : Int32)) u_COMPACT_STRINGS u_SIOOBE_FORMATTER h15 n0 Zs hcs hsf rfl (own_lo _ (own_p _ _ e10)) (own_hi _ (own_p _ _ e10)) A_r15 E_b11 F_name_b11 F_partitions_b11 g_b11 (S_COMPACT_STRINGS.ext (own_ext0 K)) (S_SIOOBE_FORMATTER.ext (own_ext0 K)) Es Fv Fc) eT pd_11 rfl (by rw [hml]; rfl) (by decide) 1 rfl (by decide) (by decide) (by decide) 21 rfl ?_
  intro T18 L9 v9 vm18 X hS hZ hown hQ
  obtain ⟨h18, eT⟩ : ∃ z, T18.heap = z := ⟨_, rfl⟩
  rw [eT] at hQ
  obtain ⟨rfl, N9, Kc, E_b11, F_name_b11, F_partitions_b11⟩ := hQ
  have Es := Es.keep Kc
  have hk : T18.heap.size ≤ h18.size := by rw [eT]; exact Nat.le_refl _
  have K := K.trans Kc (allS (Or.inr sz_b11) all0)
  have Zs := Nat.le_trans Zs Kc.1
  have N := Fr.app N N9
  show Go p e below _ T18 (mkF m 21 #[.val (.int p1), .val (.int p2), .val (.int p3), .val (.int v10), .unset, .unset, .unset, .unset, .unset, .unset] [(.ref b11)])
  refine own_astore X hx hby at_21 rfl (l' := #[.val (.int p1), .val (.int p2), .val (.int p3), .val (.int v10), .val (.ref b11), .unset, .unset, .unset, .unset, .unset]) rfl 23 rfl ?_
  refine own_iloadN X hx hby p3 at_23 rfl 24 rfl ?_
  refine own_iconst X hx hby (3 : Int32) at_24 rfl 25 rfl ?_
  refine own_iand X hx hby at_25 26 rfl ?_
  obtain ⟨v26, e26⟩ : ∃ z : Int32, (p3 &&& (3 : Int32)) = z := ⟨_, rfl⟩
  refine own_istore X hx hby at_26 e26 (l' := #[.val (.int p1), .val (.int p2), .val (.int p3), .val (.int v10), .val (.ref b11), .val (.int v26), .unset, .unset, .unset, .unset]) rfl 28 rfl ?_
  refine own_iload X hx hby v26 at_28 rfl 30 rfl ?_
  have J30 : ∀ (j30_0 : Int32), j30_0 = (if v26 = (0 : Int32) then p2 else (if v26 = (1 : Int32) then ((v10 - (2 : Int32)) + (p2 &&& (3 : Int32))) else (if v26 = (2 : Int32) then ((-2 : Int32) + (p2 &&& (3 : Int32))) else (if (p2 &&& (1 : Int32)) = (0 : Int32) then (2147483647 : Int32) else (-2147483648 : Int32))))) → Go p e below (FinW s (Q0 Z p1 p2 p3 u_COMPACT_STRINGS u_SIOOBE_FORMATTER h0 n0) room_1.cells room_1.slots) T18 (mkF m 91 #[.val (.int p1), .val (.int p2), .val (.int p3), .val (.int v10), .val (.ref b11), .val (.int v26), .val (.int j30_0), .unset, .unset, .unset] []) := by
    intro j30_0 ej30_0
    refine own_iload X hx hby j30_0 at_91 rfl 93 rfl ?_
    refine own_i2l X hx hby at_93 94 rfl ?_
    obtain ⟨v94, e94⟩ : ∃ z : Int64, (j30_0.toInt64) = z := ⟨_, rfl⟩
    refine own_lstore X hx hby at_94 e94 (l' := #[.val (.int p1), .val (.int p2), .val (.int p3), .val (.int v10), .val (.ref b11), .val (.int v26), .val (.int j30_0), .val (.long v94), .second, .unset]) rfl 96 rfl ?_
    refine own_lload X hx hby v94 at_96 rfl 98 rfl ?_
    refine own_lconst X hx hby (0 : Int64) at_98 rfl 99 rfl ?_
    have J100 : ∀ (j100_0 : Int32), j100_0 = (if v94 < (0 : Int64) then (0 : Int32) else (if ((v10.toInt64) - (1 : Int64)) < v94 then (0 : Int32) else (1 : Int32))) → Go p e below (FinW s (Q0 Z p1 p2 p3 u_COMPACT_STRINGS u_SIOOBE_FORMATTER h0 n0) room_1.cells room_1.slots) T18 (mkF m 128 #[.val (.int p1), .val (.int p2), .val (.int p3), .val (.int v10), .val (.ref b11), .val (.int v26), .val (.int j30_0), .val (.long v94), .second, .val (.int j100_0)] []) := by
      intro j100_0 ej100_0
      refine own_aload X hx hby (.ref b11) at_128 rfl rfl 130 rfl ?_
      refine own_iload X hx hby j30_0 at_130 rfl 132 rfl ?_
      refine own_callV X hx hby hZ (st := []) [(.int j30_0)] rfl hown (hw _ (List.mem_of_getElem? (i := 73) rfl)) (hw _ (List.mem_of_getElem? (i := 74) rfl)) (hw _ (List.mem_of_getElem? (i := 76) rfl)) (hw _ (List.mem_of_getElem? (i := 75) rfl)) (hw _ (List.mem_of_getElem? (i := 3) rfl)) (hw _ (List.mem_of_getElem? (i := 77) rfl)) E_b11 (by decide) at_132 (rm14 l Z a0 hw b11 j30_0 v10 h18 n0 Zs F_partitions_b11) eT pd_6 rfl (by rw [hml]; rfl) (by decide) 0 rfl (by decide) (by decide) (by decide) 135 rfl ?_
      intro T132 L9 v9 X hQ
      obtain ⟨rfl, N9, eT⟩ := hQ
      have N := Fr.app N N9
      show Go p e below _ T132 (mkF m 135 #[.val (.int p1), .val (.int p2), .val (.int p3), .val (.int v10), .val (.ref b11), .val (.int v26), .val (.int j30_0), .val (.long v94), .second, .val (.int j100_0)] [(.int (f14 j30_0 v10))])
      refine own_iload X hx hby j100_0 at_135 rfl 137 rfl ?_
      have c137 : (f14 j30_0 v10) = j100_0 := own_law _ _ _ _ (own_p _ _ e10) e94 ej100_0
      refine own_icmp_ne X hx hby at_137 144 140 (by decide) rfl (fun q => absurd c137 q) (fun _ => ?_)
      refine own_iconst X hx hby (1 : Int32) at_140 rfl 141 rfl ?_
      refine own_goto X hx hby at_141 145 (by decide) ?_
      refine own_retNW X hx hby hS (by rw [eT]; exact hk) hret hlk (t := .boolean) (z' := (1 : Int32)) (by simp) at_145 (by decide) (by decide) rfl ?_
      rw [eT]
      exact ⟨rfl, N⟩
    refine own_lcmp_ge X hx hby at_99 at_100 109 103 (by decide) rfl (fun c100 => ?_) (fun c100 => ?_)
    · skip
      refine own_lload X hx hby v94 at_109 rfl 111 rfl ?_
      refine own_iloadN X hx hby v10 at_111 rfl 112 rfl ?_
      refine own_i2l X hx hby at_112 113 rfl ?_
      refine own_lconst X hx hby (1 : Int64) at_113 rfl 114 rfl ?_
      refine own_lsub X hx hby at_114 115 rfl ?_
      refine own_lcmp_le X hx hby at_115 at_116 125 119 (by decide) rfl (fun c116 => ?_) (fun c116 => ?_)
      · skip
        refine own_iconst X hx hby (1 : Int32) at_125 rfl 126 rfl ?_
        refine own_istore X hx hby at_126 rfl (l' := #[.val (.int p1), .val (.int p2), .val (.int p3), .val (.int v10), .val (.ref b11), .val (.int v26), .val (.int j30_0), .val (.long v94), .second, .val (.int (1 : Int32))]) rfl 128 rfl ?_
        exact J100 _ (by rw [if_neg c100, if_neg c116])
      · skip
        refine own_iconst X hx hby (0 : Int32) at_119 rfl 120 rfl ?_
        refine own_istore X hx hby at_120 rfl (l' := #[.val (.int p1), .val (.int p2), .val (.int p3), .val (.int v10), .val (.ref b11), .val (.int v26), .val (.int j30_0), .val (.long v94), .second, .val (.int (0 : Int32))]) rfl 122 rfl ?_
        refine own_goto X hx hby at_122 128 (by decide) ?_
        exact J100 _ (by rw [if_neg c100, if_pos c116])
    · skip
      refine own_iconst X hx hby (0 : Int32) at_103 rfl 104 rfl ?_
      refine own_istore X hx hby at_104 rfl (l' := #[.val (.int p1), .val (.int p2), .val (.int p3), .val (.int v10), .val (.ref b11), .val (.int v26), .val (.int j30_0), .val (.long v94), .second, .val (.int (0 : Int32))]) rfl 106 rfl ?_
      refine own_goto X hx hby at_106 128 (by decide) ?_
      exact J100 _ (by rw [if_pos c100])
  refine own_if_ne X hx hby at_30 39 33 (by decide) rfl (fun c30 => ?_) (fun c30 => ?_)
  · skip
    refine own_iload X hx hby v26 at_39 rfl 41 rfl ?_
    refine own_iconst X hx hby (1 : Int32) at_41 rfl 42 rfl ?_
    refine own_icmp_ne X hx hby at_42 57 45 (by decide) rfl (fun c42 => ?_) (fun c42 => ?_)
    · skip
      refine own_iload X hx hby v26 at_57 rfl 59 rfl ?_
      refine own_iconst X hx hby (2 : Int32) at_59 rfl 60 rfl ?_
      refine own_icmp_ne X hx hby at_60 74 63 (by decide) rfl (fun c60 => ?_) (fun c60 => ?_)
      · skip
        refine own_iloadN X hx hby p2 at_74 rfl 75 rfl ?_
        refine own_iconst X hx hby (1 : Int32) at_75 rfl 76 rfl ?_
        refine own_iand X hx hby at_76 77 rfl ?_
        refine own_if_eq X hx hby at_77 87 80 (by decide) rfl (fun c77 => ?_) (fun c77 => ?_)
        · skip
          refine own_ldc X hx hby hZ (2147483647 : Int32) hown (hw _ (List.mem_of_getElem? (i := 0) rfl)) at_87 89 rfl ?_
          refine own_istore X hx hby at_89 rfl (l' := #[.val (.int p1), .val (.int p2), .val (.int p3), .val (.int v10), .val (.ref b11), .val (.int v26), .val (.int (2147483647 : Int32)), .unset, .unset, .unset]) rfl 91 rfl ?_
          exact J30 _ (by rw [if_neg c30, if_neg c42, if_neg c60, if_pos c77])
        · skip
          refine own_ldc X hx hby hZ (-2147483648 : Int32) hown (hw _ (List.mem_of_getElem? (i := 78) rfl)) at_80 82 rfl ?_
          refine own_istore X hx hby at_82 rfl (l' := #[.val (.int p1), .val (.int p2), .val (.int p3), .val (.int v10), .val (.ref b11), .val (.int v26), .val (.int (-2147483648 : Int32)), .unset, .unset, .unset]) rfl 84 rfl ?_
          refine own_goto X hx hby at_84 91 (by decide) ?_
          exact J30 _ (by rw [if_neg c30, if_neg c42, if_neg c60, if_neg c77])
      · skip
        refine own_bipush X hx hby (-2 : Int32) at_63 rfl 65 rfl ?_
        refine own_iloadN X hx hby p2 at_65 rfl 66 rfl ?_
        refine own_iconst X hx hby (3 : Int32) at_66 rfl 67 rfl ?_
        refine own_iand X hx hby at_67 68 rfl ?_
        refine own_iadd X hx hby at_68 69 rfl ?_
        refine own_istore X hx hby at_69 rfl (l' := #[.val (.int p1), .val (.int p2), .val (.int p3), .val (.int v10), .val (.ref b11), .val (.int v26), .val (.int ((-2 : Int32) + (p2 &&& (3 : Int32)))), .unset, .unset, .unset]) rfl 71 rfl ?_
        refine own_goto X hx hby at_71 91 (by decide) ?_
        exact J30 _ (by rw [if_neg c30, if_neg c42, if_pos c60])
    · skip
      refine own_iloadN X hx hby v10 at_45 rfl 46 rfl ?_
      refine own_iconst X hx hby (2 : Int32) at_46 rfl 47 rfl ?_
      refine own_isub X hx hby at_47 48 rfl ?_
      refine own_iloadN X hx hby p2 at_48 rfl 49 rfl ?_
      refine own_iconst X hx hby (3 : Int32) at_49 rfl 50 rfl ?_
      refine own_iand X hx hby at_50 51 rfl ?_
      refine own_iadd X hx hby at_51 52 rfl ?_
      refine own_istore X hx hby at_52 rfl (l' := #[.val (.int p1), .val (.int p2), .val (.int p3), .val (.int v10), .val (.ref b11), .val (.int v26), .val (.int ((v10 - (2 : Int32)) + (p2 &&& (3 : Int32)))), .unset, .unset, .unset]) rfl 54 rfl ?_
      refine own_goto X hx hby at_54 91 (by decide) ?_
      exact J30 _ (by rw [if_neg c30, if_pos c42])
  · skip
    refine own_iloadN X hx hby p2 at_33 rfl 34 rfl ?_
    refine own_istore X hx hby at_34 rfl (l' := #[.val (.int p1), .val (.int p2), .val (.int p3), .val (.int v10), .val (.ref b11), .val (.int v26), .val (.int p2), .unset, .unset, .unset]) rfl 36 rfl ?_
    refine own_goto X hx hby at_36 91 (by decide) ?_
    exact J30 _ (by rw [if_pos c30])
set_option maxRecDepth 65536 in
set_option maxHeartbeats 40000000 in
theorem comes_1 {Post : Tables → Env → Array Value → State → Outcome → State → Prop} (hpost : ∀ tb e args s v u, (limb_1_1.after args s (.returned v) u = true ∧ limb_1_2.after args s (.returned v) u = true ∧ True) → ReturnedEndW s (.returned v) u (Jvm.fieldLocs frame_1_writes args s ++ Jvm.arrayLocs frame_1_arrays args s ++ Jvm.staticLocs frame_1_statics s) 16 2176 → Post tb e args s (.returned v) u) :
    ArmFor flags0 classFile x code maxLocals ret World_1 tables_1 room_1 Calls_1 rest_1 Pre_1 Post := by
  intro l hfl _ _ p e ha hc hk s m args below hf hA hF happ hP
  obtain ⟨hcalls, hrest, hpre⟩ := hP
  obtain ⟨-, -, -, hnamed, -, -, -, hat⟩ := (Spec.applies_iff hf).mp happ
  obtain ⟨hg, hn⟩ := and_e (Cond.before_iff.mp (show (Jvm.Cond.and given_1 narrow_1).before args s = true from hpre))
  obtain ⟨gg1, gg2⟩ := and_e hg
  obtain ⟨gg3, gg4⟩ := and_e gg2
  obtain ⟨gg5, gg6⟩ := and_e gg4
  obtain ⟨w0, w1, w2, rfl⟩ : ∃ w0 w1 w2 : Value, args = #[w0, w1, w2] := by
    have hs : args.size = 3 := by simpa [Cond.value, given_1] using gg1
    obtain ⟨L⟩ := args
    match L, hs with
    | [w0, w1, w2], _ => exact ⟨w0, w1, w2, rfl⟩
  have hw := fun d (hd : d ∈ tables_1) => atoms_spec (ws := Jvm.Cond.code x code maxLocals ret :: tables_1) hat d (List.mem_cons_of_mem _ hd)
  have hfit : Fit s := fun {y c} hc i hi => by
    obtain ⟨ha, rfl⟩ := Array.getElem?_eq_some_iff.mp hc
    have q := List.all_eq_true.mp ((Array.all_eq_true_iff_forall_mem.mp hF) _ (Array.getElem_mem ha)) i (List.mem_range.mpr hi)
    simpa [Array.getElem?_eq_getElem hi] using q
  obtain ⟨hsets, hown0⟩ := atoms_of _ (rest_1_c_eq ▸ (show rest_1_c.before _ s = true from hrest))
  have hr0 := Cond.before_iff.mp hown0
  obtain ⟨i0, ei0⟩ := is_v gg3
  obtain rfl : w0 = (.int i0) := Option.some.inj ei0
  obtain ⟨i1, ei1⟩ := is_v gg5
  obtain rfl : w1 = (.int i1) := Option.some.inj ei1
  obtain ⟨i2, ei2⟩ := is_v gg6
  obtain rfl : w2 = (.int i2) := Option.some.inj ei2
  obtain ⟨u_COMPACT_STRINGS, evC⟩ := is_v (Cond.before_iff.mp (hsets _ (List.mem_of_getElem? (i := 1) rfl)))
  have S_COMPACT_STRINGS := Sta.start evC (Or.inl (hsets _ (List.mem_of_getElem? (i := 0) rfl)))
  have hcw : Jvm.Lit.compactW.before _ s = true := hsets _ (List.mem_of_getElem? (i := 2) rfl)
  have hcs : ¬ u_COMPACT_STRINGS = (0 : Int32) := own_cs evC hcw
  obtain ⟨u_SIOOBE_FORMATTER, evF, hsf⟩ := isR_v (Cond.before_iff.mp (hsets _ (List.mem_of_getElem? (i := 8) rfl)))
  have S_SIOOBE_FORMATTER := Sta.start evF (Or.inl (hsets _ (List.mem_of_getElem? (i := 7) rfl)))
  have hn0 : s.heap.size = s.heap.size := rfl
  have hZ0 : s.heap = s.heap := rfl
  have hh : Jvm.Lit.constHeld s "com/example/enroll/enroll/catalogue/TopicHasPartitionPinLaw" 10 := hcalls.1 ("com/example/enroll/enroll/catalogue/TopicHasPartitionPinLaw", 10) (by simp [consts_1])
  obtain ⟨n, o, h1, h2, h3, _, L, rfl, ⟨rfl, N⟩, hq⟩ := rm0 l s _ hw i0 i1 i2 u_COMPACT_STRINGS u_SIOOBE_FORMATTER s.heap s.heap.size (Nat.le_refl _) hcs hsf hn0 hZ0 hh hcw S_COMPACT_STRINGS S_SIOOBE_FORMATTER tables_1 p e ha hc hk s m _ below hf ((Spec.applies_iff_loose hf).mp happ).1 ⟨rfl, State.Warmed39.refl s, rfl, rfl⟩ trivial
  refine ⟨n, _, h1, h2, h3, hpost _ _ _ _ _ _ ⟨Cond.after_iff.mpr rfl, Cond.after_iff.mpr (eq_i res_at (Term.int_eval (1)) rfl), trivial⟩ ⟨hq.1, hq.2.1, hq.2.2.1, (hq.2.2.2.sift fun y hy => Or.inr (N y hy)).mono (by decide) (by decide)⟩⟩
theorem main_1_1 : Claimed_1_1 := comes_1 fun _ _ _ _ _ _ h hF => ⟨h.1, hF⟩
theorem main_1_2 : Claimed_1_2 := comes_1 fun _ _ _ _ _ _ h hF => ⟨h.2.1, hF⟩
end Jvm.Pilot.@@N@@
namespace Jvm.Pilot.@@N@@
open Jvm Jvm.ClassFile Sem Op Lib Jvm.Free Jvm.Stand Jvm.Pilot.@@N@@.Jvm.D
/-! MADE BY PROGRAM (witnessworld.py) out of the Statement's table words and the real class files: 18 classes; the members and pool entries that the words name. The judged class is class 1, her method 1. -/
namespace start1
open Jvm.ClassFile
def u (s : String) : CpInfo := .utf8 (stringToUtf16 s)
/-- a pool by its gaps: so many unusable entries, then the entry; so many at the end -/
def gap : Nat → List CpInfo → List CpInfo
  | 0, r => r
  | n + 1, r => .unusable :: gap n r
def poolList (es : List (Nat × CpInfo)) (last : Nat) : List CpInfo := es.foldr (fun e r => gap e.1 (e.2 :: r)) (gap last [])
def pool (es : List (Nat × CpInfo)) (last : Nat) : Array CpInfo := ⟨poolList es last⟩
def fileOf (pool : Array CpInfo) (this : Nat) (attrs : Array Attribute := #[]) (ms : Array MethodInfo := #[]) (fl : Nat := 33) (sup : Nat := 0) (ifs : Array Nat := #[]) (fds : Array FieldInfo := #[]) : ClassFile where
  minorVersion := 0
  majorVersion := 65
  constantPool := pool
  accessFlags := fl
  thisClass := this
  superClass := sup
  interfaces := ifs
  fields := fds
  methods := ms
  attributes := attrs
def plain (name : String) (sup : Option ClassId) : Class where
  name := name
  kind := .ordinary
  loader := none
  accessFlags := 33
  super := sup
  interfaces := #[]
  cf := none
  fields := #[]
  methods := #[]
  instanceTypes := #[]
  staticTypes := #[]
  resolved := #[]
  callSites := []
  init := .initialized
  statics := none
  mirror := none

def pool0 : Array CpInfo := pool [(5, u "<init>"), (0, u "()V"), (1, .class_ 10), (1, u "java/lang/Object")] 113

def k0c0 : Code := { maxStack := 0, maxLocals := 1, code := object_method_1_code, exceptionTable := #[], attributes := #[] }
def k0m0 : Method := { name := "<init>", desc := "()V", sig := { parameters := [], returnType := none }, accessFlags := 1, code := some k0c0 }
/-- java/lang/Object -/
def k0 : Class := { plain "java/lang/Object" none with
  accessFlags := 33
  interfaces := #[]
  cf := some (fileOf pool0 8 #[] #[{ accessFlags := 1, nameIndex := 5, descriptorIndex := 6, attributes := #[] }] 33 0 #[] #[])
  fields := #[]
  methods := #[k0m0]
  instanceTypes := #[]
  staticTypes := #[]
  resolved := Array.replicate 124 none
  statics := none }

def pool1 : Array CpInfo := pool [(2, .class_ 4), (1, u "java/lang/Object"), (0, u "<init>"), (0, u "()V"), (0, .integer 2147483647), (0, .class_ 9), (0, u "com/example/enroll/enroll/catalogue/Topic"), (0, .string 11), (0, u "t"), (0, .methodref 8 13), (0, .nameAndType 5 14), (0, u "(Ljava/lang/String;I)V"), (2, .integer 2147483648), (0, .methodref 8 19), (0, .nameAndType 20 21), (0, u "hasPartition"), (0, u "(I)Z"), (0, .class_ 23), (0, u "com/example/enroll/enroll/catalogue/TopicHasPartitionPinLaw"), (2, u "law"), (0, u "(III)Z")] 3

def k1m0 : Method := { name := "<init>", desc := "()V", sig := { parameters := [], returnType := none }, accessFlags := 1, code := none }
def k1c1 : Code := { maxStack := 6, maxLocals := 10, code := code, exceptionTable := #[], attributes := #[] }
def k1m1 : Method := { name := "law", desc := "(III)Z", sig := { parameters := [.int, .int, .int], returnType := some .boolean }, accessFlags := 9, code := some k1c1 }
/-- com/example/enroll/enroll/catalogue/TopicHasPartitionPinLaw -/
def k1 : Class := { plain "com/example/enroll/enroll/catalogue/TopicHasPartitionPinLaw" (some 0) with
  accessFlags := 49
  interfaces := #[]
  cf := some (fileOf pool1 22 #[] #[{ accessFlags := 1, nameIndex := 5, descriptorIndex := 6, attributes := #[] }, { accessFlags := 9, nameIndex := 26, descriptorIndex := 27, attributes := #[] }] 49 2 #[] #[])
  fields := #[]
  methods := #[k1m0, k1m1]
  instanceTypes := #[]
  staticTypes := #[]
  resolved := Array.replicate 31 none
  statics := none }

def pool2 : Array CpInfo := pool [(1, .methodref 2 3), (0, .class_ 4), (0, .nameAndType 5 6), (0, u "java/lang/Object"), (0, u "<init>"), (0, u "()V"), (0, .string 8), (0, u "name"), (0, .methodref 10 11), (0, .class_ 12), (0, .nameAndType 13 14), (0, u "java/util/Objects"), (0, u "requireNonNull"), (0, u "(Ljava/lang/Object;Ljava/lang/String;)Ljava/lang/Object;"), (0, .methodref 16 17), (0, .class_ 18), (0, .nameAndType 19 20), (0, u "com/example/enroll/enroll/catalogue/Topic"), (0, u "checkName"), (0, u "(Ljava/lang/String;)V"), (8, .fieldref 16 30), (0, .nameAndType 8 31), (0, u "Ljava/lang/String;"), (0, .fieldref 16 33), (0, .nameAndType 34 35), (0, u "partitions"), (0, u "I"), (0, .methodref 37 38), (0, .class_ 39), (0, .nameAndType 40 41), (0, u "java/lang/String"), (0, u "isEmpty"), (0, u "()Z"), (0, .methodref 37 43), (0, .nameAndType 44 45), (0, u "length"), (0, u "()I"), (1, .methodref 37 48), (0, .nameAndType 49 50), (0, u "charAt"), (0, u "(I)C"), (0, .methodref 16 52), (0, .nameAndType 53 54), (0, u "isNameCharacter"), (0, u "(C)Z"), (3, u "MAX_NAME_LENGTH"), (2, u "MIN_PARTITIONS"), (1, u "MAX_PARTITIONS"), (1, u "(Ljava/lang/String;I)V"), (4, u "hasPartition"), (0, u "(I)Z")] 21

def k2c0 : Code := { maxStack := 3, maxLocals := 3, code := prog_20_method_1_code, exceptionTable := #[], attributes := #[] }
def k2m0 : Method := { name := "<init>", desc := "(Ljava/lang/String;I)V", sig := { parameters := [(.object "java/lang/String"), .int], returnType := none }, accessFlags := 1, code := some k2c0 }
def k2c1 : Code := { maxStack := 2, maxLocals := 2, code := prog_20_method_4_code, exceptionTable := #[], attributes := #[] }
def k2m1 : Method := { name := "hasPartition", desc := "(I)Z", sig := { parameters := [.int], returnType := some .boolean }, accessFlags := 1, code := some k2c1 }
def k2c2 : Code := { maxStack := 4, maxLocals := 3, code := prog_20_method_5_code, exceptionTable := #[], attributes := #[] }
def k2m2 : Method := { name := "checkName", desc := "(Ljava/lang/String;)V", sig := { parameters := [(.object "java/lang/String")], returnType := none }, accessFlags := 10, code := some k2c2 }
def k2c3 : Code := { maxStack := 2, maxLocals := 1, code := prog_20_method_6_code, exceptionTable := #[], attributes := #[] }
def k2m3 : Method := { name := "isNameCharacter", desc := "(C)Z", sig := { parameters := [.char], returnType := some .boolean }, accessFlags := 10, code := some k2c3 }
/-- com/example/enroll/enroll/catalogue/Topic -/
def k2 : Class := { plain "com/example/enroll/enroll/catalogue/Topic" (some 0) with
  accessFlags := 49
  interfaces := #[]
  cf := some (fileOf pool2 16 #[] #[{ accessFlags := 1, nameIndex := 5, descriptorIndex := 65, attributes := #[] }, { accessFlags := 1, nameIndex := 70, descriptorIndex := 71, attributes := #[] }, { accessFlags := 10, nameIndex := 19, descriptorIndex := 20, attributes := #[] }, { accessFlags := 10, nameIndex := 53, descriptorIndex := 54, attributes := #[] }] 49 2 #[] #[{ accessFlags := 25, nameIndex := 58, descriptorIndex := 35, attributes := #[] }, { accessFlags := 25, nameIndex := 61, descriptorIndex := 35, attributes := #[] }, { accessFlags := 25, nameIndex := 63, descriptorIndex := 35, attributes := #[] }, { accessFlags := 18, nameIndex := 8, descriptorIndex := 31, attributes := #[] }, { accessFlags := 18, nameIndex := 34, descriptorIndex := 35, attributes := #[] }])
  fields := #[{ name := "MAX_NAME_LENGTH", type := .int, accessFlags := 25, slot := 0, constantValue := 0 }, { name := "MIN_PARTITIONS", type := .int, accessFlags := 25, slot := 1, constantValue := 0 }, { name := "MAX_PARTITIONS", type := .int, accessFlags := 25, slot := 2, constantValue := 0 }, { name := "name", type := (.object "java/lang/String"), accessFlags := 18, slot := 0, constantValue := 0 }, { name := "partitions", type := .int, accessFlags := 18, slot := 1, constantValue := 0 }]
  methods := #[k2m0, k2m1, k2m2, k2m3]
  instanceTypes := #[(.object "java/lang/String"), .int]
  staticTypes := #[.int, .int, .int]
  resolved := Array.replicate 93 none
  statics := none }

def pool3 : Array CpInfo := pool [(1, .class_ 2), (0, u "java/io/Serializable"), (0, .class_ 4), (0, u "java/lang/Object")] 2

/-- java/io/Serializable -/
def k3 : Class := { plain "java/io/Serializable" (some 0) with
  accessFlags := 1537
  interfaces := #[]
  cf := some (fileOf pool3 1 #[] #[] 1537 3 #[] #[])
  fields := #[]
  methods := #[]
  instanceTypes := #[]
  staticTypes := #[]
  resolved := Array.replicate 7 none
  statics := none }

def pool4 : Array CpInfo := pool [(1, .class_ 2), (0, u "java/lang/Comparable"), (0, .class_ 4), (0, u "java/lang/Object")] 7

/-- java/lang/Comparable -/
def k4 : Class := { plain "java/lang/Comparable" (some 0) with
  accessFlags := 1537
  interfaces := #[]
  cf := some (fileOf pool4 1 #[] #[] 1537 3 #[] #[])
  fields := #[]
  methods := #[]
  instanceTypes := #[]
  staticTypes := #[]
  resolved := Array.replicate 12 none
  statics := none }

def pool5 : Array CpInfo := pool [(2, .class_ 4), (1, u "java/lang/CharSequence"), (42, .class_ 48), (0, u "java/lang/CharSequence$1CodePointIterator"), (10, .class_ 60), (0, u "java/lang/CharSequence$1CharIterator"), (5, .class_ 67), (0, u "java/lang/Object")] 63

/-- java/lang/CharSequence -/
def k5 : Class := { plain "java/lang/CharSequence" (some 0) with
  accessFlags := 1537
  interfaces := #[]
  cf := some (fileOf pool5 2 #[.nestMembers #[47, 59]] #[] 1537 66 #[] #[])
  fields := #[]
  methods := #[]
  instanceTypes := #[]
  staticTypes := #[]
  resolved := Array.replicate 131 none
  statics := none }

def pool6 : Array CpInfo := pool [(1, .class_ 2), (0, u "java/lang/constant/Constable"), (0, .class_ 4), (0, u "java/lang/Object")] 6

/-- java/lang/constant/Constable -/
def k6 : Class := { plain "java/lang/constant/Constable" (some 0) with
  accessFlags := 1537
  interfaces := #[]
  cf := some (fileOf pool6 1 #[] #[] 1537 3 #[] #[])
  fields := #[]
  methods := #[]
  instanceTypes := #[]
  staticTypes := #[]
  resolved := Array.replicate 11 none
  statics := none }

def pool7 : Array CpInfo := pool [(1, .class_ 2), (0, u "java/lang/constant/ConstantDesc"), (0, .class_ 4), (0, u "java/lang/Object")] 32

/-- java/lang/constant/ConstantDesc -/
def k7 : Class := { plain "java/lang/constant/ConstantDesc" (some 0) with
  accessFlags := 1537
  interfaces := #[]
  cf := some (fileOf pool7 1 #[] #[] 1537 3 #[] #[])
  fields := #[]
  methods := #[]
  instanceTypes := #[]
  staticTypes := #[]
  resolved := Array.replicate 37 none
  statics := none }

def pool8 : Array CpInfo := pool [(2, .class_ 4), (1, u "java/lang/Object"), (0, u "<init>"), (0, u "()V"), (2, .fieldref 10 11), (0, .class_ 12), (0, .nameAndType 13 14), (0, u "java/lang/String"), (0, u "value"), (0, u "[B"), (0, .fieldref 10 16), (0, .nameAndType 17 18), (0, u "coder"), (0, u "B"), (2, u "hash"), (0, u "I"), (2, u "hashIsZero"), (0, u "Z"), (11, .fieldref 10 39), (0, .nameAndType 40 26), (0, u "COMPACT_STRINGS"), (66, .class_ 109), (1, u "java/lang/StringLatin1"), (32, u "()Z"), (191, u "()I"), (0, .methodref 10 336), (0, .nameAndType 17 337), (0, u "()B"), (25, u "([BI)C"), (27, u "(II)V"), (35, u "(I)C"), (64, .methodref 10 493), (0, .nameAndType 494 142), (0, u "isLatin1"), (0, .methodref 107 496), (0, .nameAndType 497 363), (0, u "charAt"), (3, u "checkIndex"), (5, u "length"), (67, .class_ 576), (0, u "java/lang/CharSequence"), (22, u "CASE_INSENSITIVE_ORDER"), (0, u "Ljava/util/Comparator;"), (91, u "isEmpty"), (360, .fieldref 1054 1055), (0, .class_ 1056), (0, .nameAndType 1057 1058), (0, u "jdk/internal/util/Preconditions"), (0, u "SIOOBE_FORMATTER"), (0, u "Ljava/util/function/BiFunction;"), (0, .methodref 1054 1060), (0, .nameAndType 501 1061), (0, u "(IILjava/util/function/BiFunction;)I"), (39, u "serialPersistentFields"), (0, u "[Ljava/io/ObjectStreamField;"), (0, .class_ 1104), (0, u "java/lang/String$CaseInsensitiveComparator"), (1, .class_ 1107), (0, u "java/io/Serializable"), (0, .class_ 1109), (0, u "java/lang/Comparable"), (0, .class_ 1111), (0, u "java/lang/constant/Constable"), (0, .class_ 1113), (0, u "java/lang/constant/ConstantDesc"), (2, u "serialVersionUID"), (0, u "J"), (3, u "REPL"), (0, u "C"), (2, u "LATIN1"), (1, u "UTF16")] 323

def k8m0 : Method := { name := "<init>", desc := "()V", sig := { parameters := [], returnType := none }, accessFlags := 1, code := none }
def k8c1 : Code := { maxStack := 2, maxLocals := 1, code := jdk_42_method_54_code, exceptionTable := #[], attributes := #[] }
def k8m1 : Method := { name := "length", desc := "()I", sig := { parameters := [], returnType := some .int }, accessFlags := 1, code := some k8c1 }
def k8c2 : Code := { maxStack := 1, maxLocals := 1, code := jdk_42_method_55_code, exceptionTable := #[], attributes := #[] }
def k8m2 : Method := { name := "isEmpty", desc := "()Z", sig := { parameters := [], returnType := some .boolean }, accessFlags := 1, code := some k8c2 }
def k8c3 : Code := { maxStack := 2, maxLocals := 2, code := jdk_42_method_56_code, exceptionTable := #[], attributes := #[] }
def k8m3 : Method := { name := "charAt", desc := "(I)C", sig := { parameters := [.int], returnType := some .char }, accessFlags := 1, code := some k8c3 }
def k8c4 : Code := { maxStack := 1, maxLocals := 1, code := jdk_42_method_152_code, exceptionTable := #[], attributes := #[] }
def k8m4 : Method := { name := "coder", desc := "()B", sig := { parameters := [], returnType := some .byte }, accessFlags := 0, code := some k8c4 }
def k8c5 : Code := { maxStack := 1, maxLocals := 1, code := jdk_42_method_154_code, exceptionTable := #[], attributes := #[] }
def k8m5 : Method := { name := "isLatin1", desc := "()Z", sig := { parameters := [], returnType := some .boolean }, accessFlags := 0, code := some k8c5 }
def k8c6 : Code := { maxStack := 3, maxLocals := 2, code := jdk_42_method_155_code, exceptionTable := #[], attributes := #[] }
def k8m6 : Method := { name := "checkIndex", desc := "(II)V", sig := { parameters := [.int, .int], returnType := none }, accessFlags := 8, code := some k8c6 }
/-- java/lang/String -/
def k8 : Class := { plain "java/lang/String" (some 0) with
  accessFlags := 49
  interfaces := #[3, 4, 5, 6, 7]
  cf := some (fileOf pool8 10 #[.nestMembers #[1103]] #[{ accessFlags := 1, nameIndex := 5, descriptorIndex := 6, attributes := #[] }, { accessFlags := 1, nameIndex := 507, descriptorIndex := 334, attributes := #[] }, { accessFlags := 1, nameIndex := 692, descriptorIndex := 142, attributes := #[] }, { accessFlags := 1, nameIndex := 497, descriptorIndex := 427, attributes := #[] }, { accessFlags := 0, nameIndex := 17, descriptorIndex := 337, attributes := #[] }, { accessFlags := 0, nameIndex := 494, descriptorIndex := 142, attributes := #[] }, { accessFlags := 8, nameIndex := 501, descriptorIndex := 391, attributes := #[] }] 49 2 #[1106, 1108, 575, 1110, 1112] #[{ accessFlags := 18, nameIndex := 13, descriptorIndex := 14, attributes := #[] }, { accessFlags := 18, nameIndex := 17, descriptorIndex := 18, attributes := #[] }, { accessFlags := 2, nameIndex := 21, descriptorIndex := 22, attributes := #[] }, { accessFlags := 2, nameIndex := 25, descriptorIndex := 26, attributes := #[] }, { accessFlags := 26, nameIndex := 1116, descriptorIndex := 1117, attributes := #[] }, { accessFlags := 24, nameIndex := 40, descriptorIndex := 26, attributes := #[] }, { accessFlags := 26, nameIndex := 1101, descriptorIndex := 1102, attributes := #[] }, { accessFlags := 26, nameIndex := 1121, descriptorIndex := 1122, attributes := #[] }, { accessFlags := 25, nameIndex := 599, descriptorIndex := 600, attributes := #[] }, { accessFlags := 24, nameIndex := 1125, descriptorIndex := 18, attributes := #[] }, { accessFlags := 24, nameIndex := 1127, descriptorIndex := 18, attributes := #[] }])
  fields := #[{ name := "value", type := (.array .byte), accessFlags := 18, slot := 0, constantValue := 0 }, { name := "coder", type := .byte, accessFlags := 18, slot := 1, constantValue := 0 }, { name := "hash", type := .int, accessFlags := 2, slot := 2, constantValue := 0 }, { name := "hashIsZero", type := .boolean, accessFlags := 2, slot := 3, constantValue := 0 }, { name := "serialVersionUID", type := .long, accessFlags := 26, slot := 0, constantValue := 0 }, { name := "COMPACT_STRINGS", type := .boolean, accessFlags := 24, slot := 1, constantValue := 0 }, { name := "serialPersistentFields", type := (.array (.object "java/io/ObjectStreamField")), accessFlags := 26, slot := 2, constantValue := 0 }, { name := "REPL", type := .char, accessFlags := 26, slot := 3, constantValue := 0 }, { name := "CASE_INSENSITIVE_ORDER", type := (.object "java/util/Comparator"), accessFlags := 25, slot := 4, constantValue := 0 }, { name := "LATIN1", type := .byte, accessFlags := 24, slot := 5, constantValue := 0 }, { name := "UTF16", type := .byte, accessFlags := 24, slot := 6, constantValue := 0 }]
  methods := #[k8m0, k8m1, k8m2, k8m3, k8m4, k8m5, k8m6]
  instanceTypes := #[(.array .byte), .byte, .int, .boolean]
  staticTypes := #[.long, .boolean, (.array (.object "java/io/ObjectStreamField")), .char, (.object "java/util/Comparator"), .byte, .byte]
  resolved := Array.replicate 1451 none
  statics := some 0 }

def pool9 : Array CpInfo := pool [(2, .class_ 4), (1, u "java/lang/Object"), (0, u "<init>"), (0, u "()V"), (35, .class_ 44), (1, u "java/util/Objects"), (0, u "requireNonNull"), (48, u "(Ljava/lang/Object;Ljava/lang/String;)Ljava/lang/Object;")] 89

def k9m0 : Method := { name := "<init>", desc := "()V", sig := { parameters := [], returnType := none }, accessFlags := 2, code := none }
def k9c1 : Code := { maxStack := 3, maxLocals := 2, code := jdk_31_method_11_code, exceptionTable := #[], attributes := #[] }
def k9m1 : Method := { name := "requireNonNull", desc := "(Ljava/lang/Object;Ljava/lang/String;)Ljava/lang/Object;", sig := { parameters := [(.object "java/lang/Object"), (.object "java/lang/String")], returnType := some (.object "java/lang/Object") }, accessFlags := 9, code := some k9c1 }
/-- java/util/Objects -/
def k9 : Class := { plain "java/util/Objects" (some 0) with
  accessFlags := 49
  interfaces := #[]
  cf := some (fileOf pool9 42 #[] #[{ accessFlags := 2, nameIndex := 5, descriptorIndex := 6, attributes := #[] }, { accessFlags := 9, nameIndex := 45, descriptorIndex := 94, attributes := #[] }] 49 2 #[] #[])
  fields := #[]
  methods := #[k9m0, k9m1]
  instanceTypes := #[]
  staticTypes := #[]
  resolved := Array.replicate 184 none
  statics := none }

def pool10 : Array CpInfo := pool [(1, .class_ 2), (0, u "java/lang/String"), (1, .class_ 6), (1, u "java/lang/Object"), (0, u "<init>"), (0, u "()V"), (0, .methodref 1 10), (0, .nameAndType 11 12), (0, u "checkIndex"), (0, u "(II)V"), (1, .class_ 16), (1, u "java/lang/StringLatin1"), (36, u "([BI)C"), (67, u "$assertionsDisabled"), (0, u "Z"), (98, .class_ 223), (1, u "java/lang/StringLatin1$LinesSpliterator"), (28, u "charAt"), (137, .class_ 391), (0, u "java/lang/StringLatin1$CharsSpliterator")] 3

def k10m0 : Method := { name := "<init>", desc := "()V", sig := { parameters := [], returnType := none }, accessFlags := 0, code := none }
def k10c1 : Code := { maxStack := 2, maxLocals := 2, code := jdk_43_method_2_code, exceptionTable := #[], attributes := #[] }
def k10m1 : Method := { name := "charAt", desc := "([BI)C", sig := { parameters := [(.array .byte), .int], returnType := some .char }, accessFlags := 9, code := some k10c1 }
/-- java/lang/StringLatin1 -/
def k10 : Class := { plain "java/lang/StringLatin1" (some 0) with
  accessFlags := 48
  interfaces := #[]
  cf := some (fileOf pool10 14 #[.nestMembers #[390, 221]] #[{ accessFlags := 0, nameIndex := 7, descriptorIndex := 8, attributes := #[] }, { accessFlags := 9, nameIndex := 252, descriptorIndex := 53, attributes := #[] }] 48 4 #[] #[{ accessFlags := 4120, nameIndex := 121, descriptorIndex := 122, attributes := #[] }])
  fields := #[{ name := "$assertionsDisabled", type := .boolean, accessFlags := 4120, slot := 0, constantValue := 0 }]
  methods := #[k10m0, k10m1]
  instanceTypes := #[]
  staticTypes := #[.boolean]
  resolved := Array.replicate 395 none
  statics := none }

def pool11 : Array CpInfo := pool [(2, .class_ 4), (1, u "java/lang/Object"), (0, u "<init>"), (0, u "()V"), (17, .class_ 26), (1, u "jdk/internal/util/Preconditions"), (6, u "checkIndex"), (21, .class_ 56), (0, u "jdk/internal/util/Preconditions$4"), (57, .class_ 115), (0, u "jdk/internal/util/Preconditions$1"), (7, u "SIOOBE_FORMATTER"), (0, u "Ljava/util/function/BiFunction;"), (0, .class_ 126), (0, u "jdk/internal/util/Preconditions$2"), (3, u "AIOOBE_FORMATTER"), (0, .class_ 132), (0, u "jdk/internal/util/Preconditions$3"), (3, u "IOOBE_FORMATTER"), (41, u "(IILjava/util/function/BiFunction;)I")] 15

def k11m0 : Method := { name := "<init>", desc := "()V", sig := { parameters := [], returnType := none }, accessFlags := 1, code := none }
def k11c1 : Code := { maxStack := 3, maxLocals := 3, code := jdk_41_method_11_code, exceptionTable := #[], attributes := #[] }
def k11m1 : Method := { name := "checkIndex", desc := "(IILjava/util/function/BiFunction;)I", sig := { parameters := [.int, .int, (.object "java/util/function/BiFunction")], returnType := some .int }, accessFlags := 9, code := some k11c1 }
/-- jdk/internal/util/Preconditions -/
def k11 : Class := { plain "jdk/internal/util/Preconditions" (some 0) with
  accessFlags := 33
  interfaces := #[]
  cf := some (fileOf pool11 24 #[.nestMembers #[55, 131, 125, 114]] #[{ accessFlags := 1, nameIndex := 5, descriptorIndex := 6, attributes := #[] }, { accessFlags := 9, nameIndex := 33, descriptorIndex := 178, attributes := #[] }] 33 2 #[] #[{ accessFlags := 25, nameIndex := 123, descriptorIndex := 124, attributes := #[] }, { accessFlags := 25, nameIndex := 130, descriptorIndex := 124, attributes := #[] }, { accessFlags := 25, nameIndex := 136, descriptorIndex := 124, attributes := #[] }])
  fields := #[{ name := "SIOOBE_FORMATTER", type := (.object "java/util/function/BiFunction"), accessFlags := 25, slot := 0, constantValue := 0 }, { name := "AIOOBE_FORMATTER", type := (.object "java/util/function/BiFunction"), accessFlags := 25, slot := 1, constantValue := 0 }, { name := "IOOBE_FORMATTER", type := (.object "java/util/function/BiFunction"), accessFlags := 25, slot := 2, constantValue := 0 }]
  methods := #[k11m0, k11m1]
  instanceTypes := #[]
  staticTypes := #[(.object "java/util/function/BiFunction"), (.object "java/util/function/BiFunction"), (.object "java/util/function/BiFunction")]
  resolved := Array.replicate 194 none
  statics := some 1 }

def pool12 : Array CpInfo := pool [(9, u "<init>"), (6, .class_ 18), (1, u "java/lang/Object"), (0, u "()V"), (1, .class_ 23), (1, u "jdk/internal/util/ArraysSupport"), (0, u "LOG2_ARRAY_LONG_INDEX_SCALE"), (0, u "I"), (2, u "U"), (0, u "Ljdk/internal/misc/Unsafe;"), (8, u "BIG_ENDIAN"), (0, u "Z"), (8, u "LOG2_BYTE_BIT_SIZE"), (4, u "LOG2_ARRAY_INT_INDEX_SCALE"), (54, u "JLA"), (0, u "Ljdk/internal/access/JavaLangAccess;"), (11, u "LOG2_ARRAY_BOOLEAN_INDEX_SCALE"), (9, u "LOG2_ARRAY_BYTE_INDEX_SCALE"), (5, u "LOG2_ARRAY_CHAR_INDEX_SCALE"), (5, u "LOG2_ARRAY_SHORT_INDEX_SCALE"), (18, u "LOG2_ARRAY_FLOAT_INDEX_SCALE"), (24, u "LOG2_ARRAY_DOUBLE_INDEX_SCALE"), (89, u "T_BOOLEAN"), (2, u "T_CHAR"), (1, u "T_FLOAT"), (1, u "T_DOUBLE"), (1, u "T_BYTE"), (1, u "T_SHORT"), (1, u "T_INT"), (1, u "T_LONG"), (1, u "SOFT_MAX_ARRAY_LENGTH")] 83

def k12m0 : Method := { name := "<init>", desc := "()V", sig := { parameters := [], returnType := none }, accessFlags := 2, code := none }
/-- jdk/internal/util/ArraysSupport -/
def k12 : Class := { plain "jdk/internal/util/ArraysSupport" (some 0) with
  accessFlags := 33
  interfaces := #[]
  cf := some (fileOf pool12 21 #[] #[{ accessFlags := 2, nameIndex := 9, descriptorIndex := 19, attributes := #[] }] 33 16 #[] #[{ accessFlags := 24, nameIndex := 28, descriptorIndex := 29, attributes := #[] }, { accessFlags := 26, nameIndex := 38, descriptorIndex := 39, attributes := #[] }, { accessFlags := 25, nameIndex := 121, descriptorIndex := 25, attributes := #[] }, { accessFlags := 25, nameIndex := 131, descriptorIndex := 25, attributes := #[] }, { accessFlags := 25, nameIndex := 137, descriptorIndex := 25, attributes := #[] }, { accessFlags := 25, nameIndex := 143, descriptorIndex := 25, attributes := #[] }, { accessFlags := 25, nameIndex := 53, descriptorIndex := 25, attributes := #[] }, { accessFlags := 25, nameIndex := 24, descriptorIndex := 25, attributes := #[] }, { accessFlags := 25, nameIndex := 162, descriptorIndex := 25, attributes := #[] }, { accessFlags := 25, nameIndex := 187, descriptorIndex := 25, attributes := #[] }, { accessFlags := 26, nameIndex := 48, descriptorIndex := 25, attributes := #[] }, { accessFlags := 25, nameIndex := 277, descriptorIndex := 25, attributes := #[] }, { accessFlags := 25, nameIndex := 280, descriptorIndex := 25, attributes := #[] }, { accessFlags := 25, nameIndex := 282, descriptorIndex := 25, attributes := #[] }, { accessFlags := 25, nameIndex := 284, descriptorIndex := 25, attributes := #[] }, { accessFlags := 25, nameIndex := 286, descriptorIndex := 25, attributes := #[] }, { accessFlags := 25, nameIndex := 288, descriptorIndex := 25, attributes := #[] }, { accessFlags := 25, nameIndex := 290, descriptorIndex := 25, attributes := #[] }, { accessFlags := 25, nameIndex := 292, descriptorIndex := 25, attributes := #[] }, { accessFlags := 26, nameIndex := 108, descriptorIndex := 109, attributes := #[] }, { accessFlags := 25, nameIndex := 294, descriptorIndex := 25, attributes := #[] }])
  fields := #[{ name := "U", type := (.object "jdk/internal/misc/Unsafe"), accessFlags := 24, slot := 0, constantValue := 0 }, { name := "BIG_ENDIAN", type := .boolean, accessFlags := 26, slot := 1, constantValue := 0 }, { name := "LOG2_ARRAY_BOOLEAN_INDEX_SCALE", type := .int, accessFlags := 25, slot := 2, constantValue := 0 }, { name := "LOG2_ARRAY_BYTE_INDEX_SCALE", type := .int, accessFlags := 25, slot := 3, constantValue := 0 }, { name := "LOG2_ARRAY_CHAR_INDEX_SCALE", type := .int, accessFlags := 25, slot := 4, constantValue := 0 }, { name := "LOG2_ARRAY_SHORT_INDEX_SCALE", type := .int, accessFlags := 25, slot := 5, constantValue := 0 }, { name := "LOG2_ARRAY_INT_INDEX_SCALE", type := .int, accessFlags := 25, slot := 6, constantValue := 0 }, { name := "LOG2_ARRAY_LONG_INDEX_SCALE", type := .int, accessFlags := 25, slot := 7, constantValue := 0 }, { name := "LOG2_ARRAY_FLOAT_INDEX_SCALE", type := .int, accessFlags := 25, slot := 8, constantValue := 0 }, { name := "LOG2_ARRAY_DOUBLE_INDEX_SCALE", type := .int, accessFlags := 25, slot := 9, constantValue := 0 }, { name := "LOG2_BYTE_BIT_SIZE", type := .int, accessFlags := 26, slot := 10, constantValue := 0 }, { name := "T_BOOLEAN", type := .int, accessFlags := 25, slot := 11, constantValue := 0 }, { name := "T_CHAR", type := .int, accessFlags := 25, slot := 12, constantValue := 0 }, { name := "T_FLOAT", type := .int, accessFlags := 25, slot := 13, constantValue := 0 }, { name := "T_DOUBLE", type := .int, accessFlags := 25, slot := 14, constantValue := 0 }, { name := "T_BYTE", type := .int, accessFlags := 25, slot := 15, constantValue := 0 }, { name := "T_SHORT", type := .int, accessFlags := 25, slot := 16, constantValue := 0 }, { name := "T_INT", type := .int, accessFlags := 25, slot := 17, constantValue := 0 }, { name := "T_LONG", type := .int, accessFlags := 25, slot := 18, constantValue := 0 }, { name := "JLA", type := (.object "jdk/internal/access/JavaLangAccess"), accessFlags := 26, slot := 19, constantValue := 0 }, { name := "SOFT_MAX_ARRAY_LENGTH", type := .int, accessFlags := 25, slot := 20, constantValue := 0 }]
  methods := #[k12m0]
  instanceTypes := #[]
  staticTypes := #[(.object "jdk/internal/misc/Unsafe"), .boolean, .int, .int, .int, .int, .int, .int, .int, .int, .int, .int, .int, .int, .int, .int, .int, .int, .int, (.object "jdk/internal/access/JavaLangAccess"), .int]
  resolved := Array.replicate 378 none
  statics := none }

def pool13 : Array CpInfo := pool [(1, u "java/lang/Cloneable"), (0, .class_ 1), (0, u "java/lang/Object"), (0, .class_ 3)] 3

/-- java/lang/Cloneable -/
def k13 : Class := { plain "java/lang/Cloneable" (some 0) with
  accessFlags := 1537
  interfaces := #[]
  cf := some (fileOf pool13 2 #[] #[] 1537 4 #[] #[])
  fields := #[]
  methods := #[]
  instanceTypes := #[]
  staticTypes := #[]
  resolved := Array.replicate 8 none
  statics := none }

/-- the primitive byte -/
def k14 : Class := { plain "byte" none with kind := .primitive 'B', accessFlags := 0x411 }
/-- [B -/
def k15 : Class := { plain "[B" (some 0) with kind := .array 14 .byte, interfaces := #[13, 3], accessFlags := 1041 }

/-- the primitive int -/
def k16 : Class := { plain "int" none with kind := .primitive 'I', accessFlags := 0x411 }
/-- [I -/
def k17 : Class := { plain "[I" (some 0) with kind := .array 16 .int, interfaces := #[13, 3], accessFlags := 1041 }

def heap : Heap := #[{ cls := 8, slots := #[.long 0, .int 1, .null, .int 0, .null, .int 0, .int 0], vm := .statics 8 },
  { cls := 11, slots := #[.null, .null, .null], vm := .statics 11 }]
def classes : Array Class := #[k0, k1, k2, k3, k4, k5, k6, k7, k8, k9, k10, k11, k12, k13, k14, k15, k16, k17]
def interned : List (Array UInt16 × Addr) := []
def slotsUsed : Nat := 10
def theMethod : MethodId := ⟨1, 1⟩
def args0 : Array Value := #[.int 3, .int 4, .int 5]
def aboutOver (below : List Frame) : State where
  vm := { classes := classes, interned := interned.toArray }
  heap := heap
  slotsUsed := slotsUsed
  threads := #[{ frames := .invoking theMethod args0 :: below }]
def below0 : List Frame := [.native { method := ⟨0, 0⟩, args := #[] }]
def about1 : State := aboutOver below0
def p0 : Program := .bare "" "" ""
def e0 : Env := launch0.env 0 0 0
theorem w_frames : about1.frames = Frame.invoking theMethod args0 :: below0 := rfl
set_option maxRecDepth 65536 in
theorem w_args : argsFit about1.vm theMethod args0 = true := by decide +kernel
set_option maxRecDepth 65536 in
theorem w_heap : heapFits about1 = true := by decide +kernel
set_option maxRecDepth 65536 in
theorem w_runnable : about1.curStatus? = some .runnable := by decide +kernel
set_option maxRecDepth 65536 in
theorem w_alone : about1.alone = true := by decide +kernel
set_option maxRecDepth 65536 in
theorem w_named : about1.methodNamed? x = some theMethod := by decide +kernel
set_option maxRecDepth 65536 in
theorem w_hears : about1.hears theMethod below0 = true := by decide +kernel
set_option maxRecDepth 65536 in
theorem w_ripe : about1.ripe theMethod args0 below0 = true := by decide +kernel
theorem w_running : about1.status = .running := rfl
set_option maxRecDepth 65536 in
theorem w_room : about1.hasRoom e0.platform room_1 = true :=
  launch0.hasRoom_least _ room_1 (by decide +kernel) (by decide +kernel) (by decide +kernel) (by decide +kernel) (by decide +kernel) (by decide +kernel)
theorem allAtoms_all (ts : List Jvm.Cond) (a : Array Jvm.Value) (st : Jvm.State) : (allAtoms ts).before a st = ts.all (fun c => c.before a st) := by
  induction ts with
  | nil => rfl
  | cons c t ih =>
    show (Jvm.Cond.and c (allAtoms t)).before a st = _
    rw [Jvm.Cond.before_and, ih, List.all_cons]
def words1 : List Jvm.Cond := Jvm.Cond.code x code maxLocals ret :: tables_1
/-- a 'code' word, met by the world's own term for the bytes: nothing is compared byte by byte -/
theorem code_word {y : MethodName} {bytes : ByteArray} {mx : Nat} {rt : Option FieldType} {a : Array Value} {s : State} {m : MethodId} {meth : Method} {c : Code} (h1 : s.methodNamed? y = some m) (h2 : s.vm.method? m = some meth) (h3 : meth.code = some c) (h4 : c.code = bytes)
    (h5 : (c.maxLocals == mx && c.exceptionTable.isEmpty && decide (c.maxStack ≤ mostOperands) && decide (meth.sig.returnType = rt) && !meth.locks && decide (parseMethodDescriptor y.desc = some meth.sig)) = true) : (Jvm.Cond.code y bytes mx rt).before a s = true := by
  simp only [Bool.and_eq_true, beq_iff_eq, Bool.not_eq_true', decide_eq_true_eq] at h5
  obtain ⟨⟨⟨⟨⟨g1, g2⟩, g3⟩, g4⟩, g5⟩, g6⟩ := h5
  simp [Cond.before, Cond.holds, Cond.value, h1, h2, h3, h4, g1, g2, g3, g4, g5, g6]
def isCode : Jvm.Cond → Bool
  | .code _ _ _ _ => true
  | _ => false
theorem all_split {L : List Jvm.Cond} {P : Jvm.Cond → Bool} (h1 : L.all (fun c => isCode c || P c) = true) (h2 : ∀ c ∈ L.filter isCode, P c = true) : L.all P = true := by
  refine List.all_eq_true.mpr fun c hc => ?_
  have h := List.all_eq_true.mp h1 c hc
  rcases Bool.eq_false_or_eq_true (isCode c) with hi | hi
  · exact h2 c (List.mem_filter.mpr ⟨hc, hi⟩)
  · simpa [hi] using h
set_option maxRecDepth 65536 in
theorem w_c0 : (Jvm.Cond.code x code maxLocals ret).before args0 about1 = true := code_word (m := ⟨1, 1⟩) (meth := k1m1) (c := k1c1) (by decide +kernel) rfl rfl rfl (by decide +kernel)
set_option maxRecDepth 65536 in
theorem w_c1 : (Jvm.Cond.code ({ cls := "com/example/enroll/enroll/catalogue/Topic", name := "<init>", desc := "(Ljava/lang/String;I)V" } : Jvm.MethodName) prog_20_method_1_code (3 : Nat) (Option.none : Option Jvm.ClassFile.FieldType)).before args0 about1 = true := code_word (m := ⟨2, 0⟩) (meth := k2m0) (c := k2c0) (by decide +kernel) rfl rfl rfl (by decide +kernel)
set_option maxRecDepth 65536 in
theorem w_c2 : (Jvm.Cond.code ({ cls := "java/lang/Object", name := "<init>", desc := "()V" } : Jvm.MethodName) object_method_1_code (1 : Nat) (Option.none : Option Jvm.ClassFile.FieldType)).before args0 about1 = true := code_word (m := ⟨0, 0⟩) (meth := k0m0) (c := k0c0) (by decide +kernel) rfl rfl rfl (by decide +kernel)
set_option maxRecDepth 65536 in
theorem w_c3 : (Jvm.Cond.code ({ cls := "java/util/Objects", name := "requireNonNull", desc := "(Ljava/lang/Object;Ljava/lang/String;)Ljava/lang/Object;" } : Jvm.MethodName) jdk_31_method_11_code (2 : Nat) (Option.some (Jvm.ClassFile.FieldType.object "java/lang/Object"))).before args0 about1 = true := code_word (m := ⟨9, 1⟩) (meth := k9m1) (c := k9c1) (by decide +kernel) rfl rfl rfl (by decide +kernel)
set_option maxRecDepth 65536 in
theorem w_c4 : (Jvm.Cond.code ({ cls := "com/example/enroll/enroll/catalogue/Topic", name := "checkName", desc := "(Ljava/lang/String;)V" } : Jvm.MethodName) prog_20_method_5_code (3 : Nat) (Option.none : Option Jvm.ClassFile.FieldType)).before args0 about1 = true := code_word (m := ⟨2, 2⟩) (meth := k2m2) (c := k2c2) (by decide +kernel) rfl rfl rfl (by decide +kernel)
set_option maxRecDepth 65536 in
theorem w_c5 : (Jvm.Cond.code ({ cls := "java/lang/String", name := "isEmpty", desc := "()Z" } : Jvm.MethodName) jdk_42_method_55_code (1 : Nat) (Option.some Jvm.ClassFile.FieldType.boolean)).before args0 about1 = true := code_word (m := ⟨8, 2⟩) (meth := k8m2) (c := k8c2) (by decide +kernel) rfl rfl rfl (by decide +kernel)
set_option maxRecDepth 65536 in
theorem w_c6 : (Jvm.Cond.code ({ cls := "java/lang/String", name := "length", desc := "()I" } : Jvm.MethodName) jdk_42_method_54_code (1 : Nat) (Option.some Jvm.ClassFile.FieldType.int)).before args0 about1 = true := code_word (m := ⟨8, 1⟩) (meth := k8m1) (c := k8c1) (by decide +kernel) rfl rfl rfl (by decide +kernel)
set_option maxRecDepth 65536 in
theorem w_c7 : (Jvm.Cond.code ({ cls := "java/lang/String", name := "coder", desc := "()B" } : Jvm.MethodName) jdk_42_method_152_code (1 : Nat) (Option.some Jvm.ClassFile.FieldType.byte)).before args0 about1 = true := code_word (m := ⟨8, 4⟩) (meth := k8m4) (c := k8c4) (by decide +kernel) rfl rfl rfl (by decide +kernel)
set_option maxRecDepth 65536 in
theorem w_c8 : (Jvm.Cond.code ({ cls := "java/lang/String", name := "charAt", desc := "(I)C" } : Jvm.MethodName) jdk_42_method_56_code (2 : Nat) (Option.some Jvm.ClassFile.FieldType.char)).before args0 about1 = true := code_word (m := ⟨8, 3⟩) (meth := k8m3) (c := k8c3) (by decide +kernel) rfl rfl rfl (by decide +kernel)
set_option maxRecDepth 65536 in
theorem w_c9 : (Jvm.Cond.code ({ cls := "java/lang/String", name := "isLatin1", desc := "()Z" } : Jvm.MethodName) jdk_42_method_154_code (1 : Nat) (Option.some Jvm.ClassFile.FieldType.boolean)).before args0 about1 = true := code_word (m := ⟨8, 5⟩) (meth := k8m5) (c := k8c5) (by decide +kernel) rfl rfl rfl (by decide +kernel)
set_option maxRecDepth 65536 in
theorem w_c10 : (Jvm.Cond.code ({ cls := "java/lang/StringLatin1", name := "charAt", desc := "([BI)C" } : Jvm.MethodName) jdk_43_method_2_code (2 : Nat) (Option.some Jvm.ClassFile.FieldType.char)).before args0 about1 = true := code_word (m := ⟨10, 1⟩) (meth := k10m1) (c := k10c1) (by decide +kernel) rfl rfl rfl (by decide +kernel)
set_option maxRecDepth 65536 in
theorem w_c11 : (Jvm.Cond.code ({ cls := "java/lang/String", name := "checkIndex", desc := "(II)V" } : Jvm.MethodName) jdk_42_method_155_code (2 : Nat) (Option.none : Option Jvm.ClassFile.FieldType)).before args0 about1 = true := code_word (m := ⟨8, 6⟩) (meth := k8m6) (c := k8c6) (by decide +kernel) rfl rfl rfl (by decide +kernel)
set_option maxRecDepth 65536 in
theorem w_c12 : (Jvm.Cond.code ({ cls := "jdk/internal/util/Preconditions", name := "checkIndex", desc := "(IILjava/util/function/BiFunction;)I" } : Jvm.MethodName) jdk_41_method_11_code (3 : Nat) (Option.some Jvm.ClassFile.FieldType.int)).before args0 about1 = true := code_word (m := ⟨11, 1⟩) (meth := k11m1) (c := k11c1) (by decide +kernel) rfl rfl rfl (by decide +kernel)
set_option maxRecDepth 65536 in
theorem w_c13 : (Jvm.Cond.code ({ cls := "com/example/enroll/enroll/catalogue/Topic", name := "isNameCharacter", desc := "(C)Z" } : Jvm.MethodName) prog_20_method_6_code (1 : Nat) (Option.some Jvm.ClassFile.FieldType.boolean)).before args0 about1 = true := code_word (m := ⟨2, 3⟩) (meth := k2m3) (c := k2c3) (by decide +kernel) rfl rfl rfl (by decide +kernel)
set_option maxRecDepth 65536 in
theorem w_c14 : (Jvm.Cond.code ({ cls := "com/example/enroll/enroll/catalogue/Topic", name := "hasPartition", desc := "(I)Z" } : Jvm.MethodName) prog_20_method_4_code (2 : Nat) (Option.some Jvm.ClassFile.FieldType.boolean)).before args0 about1 = true := code_word (m := ⟨2, 1⟩) (meth := k2m1) (c := k2c1) (by decide +kernel) rfl rfl rfl (by decide +kernel)
def codes1 : List Jvm.Cond := [Jvm.Cond.code x code maxLocals ret, Jvm.Cond.code ({ cls := "com/example/enroll/enroll/catalogue/Topic", name := "<init>", desc := "(Ljava/lang/String;I)V" } : Jvm.MethodName) prog_20_method_1_code (3 : Nat) (Option.none : Option Jvm.ClassFile.FieldType), Jvm.Cond.code ({ cls := "java/lang/Object", name := "<init>", desc := "()V" } : Jvm.MethodName) object_method_1_code (1 : Nat) (Option.none : Option Jvm.ClassFile.FieldType), Jvm.Cond.code ({ cls := "java/util/Objects", name := "requireNonNull", desc := "(Ljava/lang/Object;Ljava/lang/String;)Ljava/lang/Object;" } : Jvm.MethodName) jdk_31_method_11_code (2 : Nat) (Option.some (Jvm.ClassFile.FieldType.object "java/lang/Object")), Jvm.Cond.code ({ cls := "com/example/enroll/enroll/catalogue/Topic", name := "checkName", desc := "(Ljava/lang/String;)V" } : Jvm.MethodName) prog_20_method_5_code (3 : Nat) (Option.none : Option Jvm.ClassFile.FieldType), Jvm.Cond.code ({ cls := "java/lang/String", name := "isEmpty", desc := "()Z" } : Jvm.MethodName) jdk_42_method_55_code (1 : Nat) (Option.some Jvm.ClassFile.FieldType.boolean), Jvm.Cond.code ({ cls := "java/lang/String", name := "length", desc := "()I" } : Jvm.MethodName) jdk_42_method_54_code (1 : Nat) (Option.some Jvm.ClassFile.FieldType.int), Jvm.Cond.code ({ cls := "java/lang/String", name := "coder", desc := "()B" } : Jvm.MethodName) jdk_42_method_152_code (1 : Nat) (Option.some Jvm.ClassFile.FieldType.byte), Jvm.Cond.code ({ cls := "java/lang/String", name := "charAt", desc := "(I)C" } : Jvm.MethodName) jdk_42_method_56_code (2 : Nat) (Option.some Jvm.ClassFile.FieldType.char), Jvm.Cond.code ({ cls := "java/lang/String", name := "isLatin1", desc := "()Z" } : Jvm.MethodName) jdk_42_method_154_code (1 : Nat) (Option.some Jvm.ClassFile.FieldType.boolean), Jvm.Cond.code ({ cls := "java/lang/StringLatin1", name := "charAt", desc := "([BI)C" } : Jvm.MethodName) jdk_43_method_2_code (2 : Nat) (Option.some Jvm.ClassFile.FieldType.char), Jvm.Cond.code ({ cls := "java/lang/String", name := "checkIndex", desc := "(II)V" } : Jvm.MethodName) jdk_42_method_155_code (2 : Nat) (Option.none : Option Jvm.ClassFile.FieldType), Jvm.Cond.code ({ cls := "jdk/internal/util/Preconditions", name := "checkIndex", desc := "(IILjava/util/function/BiFunction;)I" } : Jvm.MethodName) jdk_41_method_11_code (3 : Nat) (Option.some Jvm.ClassFile.FieldType.int), Jvm.Cond.code ({ cls := "com/example/enroll/enroll/catalogue/Topic", name := "isNameCharacter", desc := "(C)Z" } : Jvm.MethodName) prog_20_method_6_code (1 : Nat) (Option.some Jvm.ClassFile.FieldType.boolean), Jvm.Cond.code ({ cls := "com/example/enroll/enroll/catalogue/Topic", name := "hasPartition", desc := "(I)Z" } : Jvm.MethodName) prog_20_method_4_code (2 : Nat) (Option.some Jvm.ClassFile.FieldType.boolean)]
set_option maxRecDepth 65536 in
theorem codes_eq : words1.filter isCode = codes1 := rfl
theorem w_codes : ∀ c ∈ words1.filter isCode, c.before args0 about1 = true := by
  rw [codes_eq]
  intro c hc
  simp only [codes1, List.mem_cons, List.not_mem_nil, or_false] at hc
  rcases hc with rfl | rfl | rfl | rfl | rfl | rfl | rfl | rfl | rfl | rfl | rfl | rfl | rfl | rfl | rfl
  · exact w_c0
  · exact w_c1
  · exact w_c2
  · exact w_c3
  · exact w_c4
  · exact w_c5
  · exact w_c6
  · exact w_c7
  · exact w_c8
  · exact w_c9
  · exact w_c10
  · exact w_c11
  · exact w_c12
  · exact w_c13
  · exact w_c14
set_option maxRecDepth 65536 in
theorem w_t1 : (words1.take 24).all (fun c => isCode c || c.before args0 about1) = true := by decide +kernel
set_option maxRecDepth 65536 in
theorem w_t2 : ((words1.drop 24).take 24).all (fun c => isCode c || c.before args0 about1) = true := by decide +kernel
set_option maxRecDepth 65536 in
theorem w_t3 : (((words1.drop 24).drop 24).take 24).all (fun c => isCode c || c.before args0 about1) = true := by decide +kernel
set_option maxRecDepth 65536 in
theorem w_t4 : (((words1.drop 24).drop 24).drop 24).all (fun c => isCode c || c.before args0 about1) = true := by decide +kernel
theorem w_tables : (allAtoms (Jvm.Cond.code x code maxLocals ret :: tables_1)).before args0 about1 = true := by
  rw [allAtoms_all]
  show words1.all (fun c => c.before args0 about1) = true
  refine all_split ?_ w_codes
  rw [← List.take_append_drop 24 words1, List.all_append, w_t1, ← List.take_append_drop 24 (words1.drop 24), List.all_append, w_t2, ← List.take_append_drop 24 ((words1.drop 24).drop 24), List.all_append, w_t3, w_t4]
  rfl
set_option maxRecDepth 65536 in
theorem w_rest : rest_1_c.before args0 about1 = true := by decide +kernel
set_option maxRecDepth 65536 in
theorem w_case : (Jvm.Cond.and given_1 narrow_1).before args0 about1 = true := by decide +kernel
set_option maxRecDepth 65536 in
theorem w_consts : constsHeld consts_1 about1 := Jvm.Lit.constsHeldB_iff.mp (by decide +kernel)
theorem w_applies : (headSpec (Jvm.Cond.code x code maxLocals ret :: tables_1) room_1).applies x e0.platform about1 = true :=
  (Spec.applies_iff w_frames).mpr ⟨w_running, w_runnable, w_alone, w_named, w_hears, w_ripe, w_room, w_tables⟩
theorem atStart : AtStart classFile x code maxLocals ret World_1 tables_1 room_1 Calls_1 rest_1 Pre_1 launch0 p0 e0 about1 theMethod args0 below0 :=
  ⟨lists_1, trivial, launch0.admits_env _ _ _, launch0.least_env, fairChoices_fair.cas, fairChoices_fair.clock, w_frames, w_args, w_heap, w_applies, ⟨w_consts, trivial⟩, w_rest, w_case⟩
end start1
theorem witness_1 : WitnessClaimed_1 := ⟨start1.p0, start1.e0, start1.about1, start1.theMethod, start1.args0, start1.below0, start1.atStart⟩
end Jvm.Pilot.@@N@@

import JvmDerived
import JvmDerived.Pilot.@@N@@Statement
import JvmDerived.Pilot.@@N@@Code
set_option linter.unusedVariables false
set_option linter.unusedSimpArgs false
namespace Jvm.Pilot.@@N@@
open Jvm Jvm.ClassFile Sem Op Lib Jvm.Free Jvm.Stand Jvm.LawKit Jvm.RoadKit Bundle Jvm.Pilot.@@N@@.Jvm.D
/-! ## the run in continuation form: 'Go G T g': from T with the top frame g the run ends as G says -/
def Go (p : Program) (e : Env) (below : List Frame) (G : State → Outcome → Prop) (T : State) (g : JFrame) : Prop :=
  ∃ s₂ o, Steps p.tables e below (T.setTop g) s₂ ∧ s₂.status = .running ∧ Ended s₂ below o ∧ G s₂ o
/-- what a contract asks of the end -/
def FinQ (s : State) (Q : Option Value → Heap → List Loc → Prop) (kc ks : Nat) (U' : State) (o : Outcome) : Prop :=
  ∃ v L, o = .returned v ∧ Q v U'.heap L ∧ FrameEnd s o U' L kc ks
/-- a body's contract, as backOf takes it -/
def Met1 (l : Launch) (Z : State) (y : MethodName) (bytes : ByteArray) (maxL : Nat) (rt : Option FieldType) (rm : Room) (as : Array Value) (h0 : Heap) (Q : Option Value → Heap → List Loc → Prop) : Prop :=
  ∀ ws : List Jvm.Cond, MetFree l y (head1 (Jvm.Cond.code y bytes maxL rt :: ws) rm) (fun a U => a = as ∧ Z.Warmed39 U.vm ∧ U.heap = h0) (fun _ _ _ _ _ => True)
    (fun _ U o U' => ∃ v L, o = .returned v ∧ Q v U'.heap L ∧ FrameEnd U o U' L rm.cells rm.slots)
section OwnGo
variable {p : Program} {l : Launch} {e : Env} {R : Room} {s : State} {m : MethodId} {args : Array Value} {below : List Frame} {meth : Method} {c : Code} {T T' : State} {locs : List Loc} {cells slots : Nat} {G : State → Outcome → Prop} {Ls : Array Slot} {st : List Value} {pc : Nat} {bs : ByteArray} {Z : State} {a0 : Array Value} {h : Heap} {g g' : JFrame}
theorem Go.by (q : ∀ t, Steps p.tables e below (T'.setTop g') t → Steps p.tables e below (T.setTop g) t) (k : Go p e below G T' g') : Go p e below G T g := by
  obtain ⟨s₂, o, h1, h2⟩ := k
  exact ⟨s₂, o, q _ h1, h2⟩
theorem own_met_of {Z : State} {y : MethodName} {bytes : ByteArray} {maxL : Nat} {rt : Option FieldType} {rm : Room} {as : Array Value} {h0 : Heap} {Q : Option Value → Heap → List Loc → Prop} {Ls0 : Array Slot} (hpl : plainFor y = true) (ef : ∀ m, entryFrame m as maxL = mkF m 0 Ls0 [])
    (body : ∀ (p : Program) (e : Env) (s : State) (m : MethodId) (below : List Frame) (meth : Method) (c : Code) (s₁ : State), Stand p l e rm s m as below meth c s₁ [] 0 0 → p.tables.exec = Jvm.exec → c.code = bytes → c.maxLocals = maxL → Z.Warmed39 s.vm → s.vm.findClass y.cls = some m.cls → meth.name = y.name → meth.sig.returnType = rt → meth.locks = false → s₁.heap = h0 →
      Go p e below (FinQ s Q rm.cells rm.slots) s₁ (mkF m 0 Ls0 [])) : Met1 l Z y bytes maxL rt rm as h0 Q := by
  intro ws
  refine MetFree.of_bodySF hpl hisR ?_
  intro p e s m args below meth c s₁ Bd hml0 hP hK
  obtain ⟨rfl, hZ, hh⟩ := hP
  have k := body p e s m below meth c s₁ (Stand.of_body Bd) Bd.exec Bd.bytes hml0 hZ (findClass_of_methodNamed Bd.named) (name_of_methodNamed Bd.named Bd.method).1 Bd.returns Bd.notSynchronized (by rw [← hh, Bd.state]; rfl)
  rw [← ef m] at k
  exact k
theorem own_leave {Q : Option Value → Heap → List Loc → Prop} {kc ks : Nat} {v : Option Value} (X : Stand p l e R s m args below meth c T locs cells slots) (hv : meth.sig.returnType = none → v = none) (hlk : meth.locks = false) (hc : cells ≤ kc) (hs : slots ≤ ks) (hQ : Q v T.heap locs)
    (k : ∀ fs, (∀ (f : JFrame) (acts : List Action), f.method = m → f.locked = none → f.entered = [] → (doReturn e (T.setTop f) acts v).1 = T.setFrames fs) → Steps p.tables e below (T.setTop g) (T.setFrames fs)) : Go p e below (FinQ s Q kc ks) T g := by
  obtain ⟨fs, hr, hrun, hended, hW, hsame⟩ := X.leave (v := v) hv hlk
  exact ⟨_, _, k fs hr, hrun, hended, _, _, rfl, hQ, ⟨_, rfl⟩, hW, hsame.mono hc hs⟩
theorem own_retI {Q : Option Value → Heap → List Loc → Prop} {kc ks : Nat} {z : Int32} (X : Stand p l e R s m args below meth c T locs cells slots) (hx : p.tables.exec = Jvm.exec) (hby : c.code = bs) (hret : meth.sig.returnType = some .int) (hlk : meth.locks = false) (hd : decode bs pc = .ok (.ireturn, 1)) (hc : cells ≤ kc) (hs : slots ≤ ks) (hQ : Q (some (.int z)) T.heap locs) : Go p e below (FinQ s Q kc ks) T (mkF m pc Ls (.int z :: st)) := by
  refine own_leave X (fun q => by rw [hret] at q; cases q) hlk hc hs hQ fun fs hr => ?_
  exact retOut X hx hret rfl (Or.inl ⟨rfl, Or.inl rfl, z, rfl⟩) (hb hby hd) hr
theorem own_retN {Q : Option Value → Heap → List Loc → Prop} {kc ks : Nat} {z z' : Int32} {t : FieldType} (X : Stand p l e R s m args below meth c T locs cells slots) (hx : p.tables.exec = Jvm.exec) (hby : c.code = bs) (hret : meth.sig.returnType = some t) (hlk : meth.locks = false) (ht : t = .boolean ∨ t = .byte ∨ t = .char ∨ t = .short) (hd : decode bs pc = .ok (.ireturn, 1)) (hc : cells ≤ kc) (hs : slots ≤ ks) (hn : nar t z = z') (hQ : Q (some (.int z')) T.heap locs) : Go p e below (FinQ s Q kc ks) T (mkF m pc Ls (.int z :: st)) := by
  subst hn
  refine own_leave X (fun q => by rw [hret] at q; cases q) hlk hc hs hQ fun fs hr => ?_
  exact retN X hx hret ht (hb hby hd) hr
theorem own_retJ {Q : Option Value → Heap → List Loc → Prop} {kc ks : Nat} {z : Int64} (X : Stand p l e R s m args below meth c T locs cells slots) (hx : p.tables.exec = Jvm.exec) (hby : c.code = bs) (hret : meth.sig.returnType = some .long) (hlk : meth.locks = false) (hd : decode bs pc = .ok (.lreturn, 1)) (hc : cells ≤ kc) (hs : slots ≤ ks) (hQ : Q (some (.long z)) T.heap locs) : Go p e below (FinQ s Q kc ks) T (mkF m pc Ls (.long z :: st)) := by
  refine own_leave X (fun q => by rw [hret] at q; cases q) hlk hc hs hQ fun fs hr => ?_
  exact retOut X hx hret rfl (Or.inr (Or.inl ⟨rfl, rfl, z, rfl⟩)) (hb hby hd) hr
theorem own_retA {Q : Option Value → Heap → List Loc → Prop} {kc ks : Nat} {w : Value} {t : FieldType} (X : Stand p l e R s m args below meth c T locs cells slots) (hx : p.tables.exec = Jvm.exec) (hby : c.code = bs) (hret : meth.sig.returnType = some t) (hlk : meth.locks = false) (ht : t.isReference = true) (hw : w.isRef = true) (hn : narrow t w = w) (hd : decode bs pc = .ok (.areturn, 1)) (hc : cells ≤ kc) (hs : slots ≤ ks) (hQ : Q (some w) T.heap locs) : Go p e below (FinQ s Q kc ks) T (mkF m pc Ls (w :: st)) := by
  refine own_leave X (fun q => by rw [hret] at q; cases q) hlk hc hs hQ fun fs hr => ?_
  exact retOut X hx hret hn (Or.inr (Or.inr (Or.inr (Or.inr ⟨rfl, ht, hw⟩)))) (hb hby hd) hr
theorem own_ret {Q : Option Value → Heap → List Loc → Prop} {kc ks : Nat} (X : Stand p l e R s m args below meth c T locs cells slots) (hx : p.tables.exec = Jvm.exec) (hby : c.code = bs) (hret : meth.sig.returnType = none) (hlk : meth.locks = false) (hd : decode bs pc = .ok (.return_, 1)) (hc : cells ≤ kc) (hs : slots ≤ ks) (hQ : Q none T.heap locs) : Go p e below (FinQ s Q kc ks) T (mkF m pc Ls []) := by
  refine own_leave X (fun _ => rfl) hlk hc hs hQ fun fs hr => ?_
  exact X.returnOut hx hret (hb hby hd) hr
theorem own_iload (X : Stand p l e R s m args below meth c T locs cells slots) (hx : p.tables.exec = Jvm.exec) (hby : c.code = bs) {n : Nat} (v : Int32) (hd : decode bs pc = .ok (.iload n, 2)) (hl : Ls[n]? = some (.val (.int v))) (pc' : Nat) (hp : pc + 2 = pc') (k : Go p e below G T (mkF m pc' Ls (.int v :: st))) : Go p e below G T (mkF m pc Ls st) := by
  subst hp
  exact Go.by (fun t q => XS.iload X.here hx rfl (hb hby hd) hl q) k
theorem own_iloadN (X : Stand p l e R s m args below meth c T locs cells slots) (hx : p.tables.exec = Jvm.exec) (hby : c.code = bs) {n : Fin 4} (v : Int32) (hd : decode bs pc = .ok (.iload_n n, 1)) (hl : Ls[n.val]? = some (.val (.int v))) (pc' : Nat) (hp : pc + 1 = pc') (k : Go p e below G T (mkF m pc' Ls (.int v :: st))) : Go p e below G T (mkF m pc Ls st) := by
  subst hp
  exact Go.by (fun t q => XS.iloadN X.here hx rfl (hb hby hd) hl q) k
theorem own_istore (X : Stand p l e R s m args below meth c T locs cells slots) (hx : p.tables.exec = Jvm.exec) (hby : c.code = bs) {n : Nat} {x x' : Int32} (hd : decode bs pc = .ok (.istore n, 2)) (ex : x = x') {l' : Array Slot} (hl : storeLocals Ls n (.int x') = some l') (pc' : Nat) (hp : pc + 2 = pc') (k : Go p e below G T (mkF m pc' l' st)) : Go p e below G T (mkF m pc Ls (.int x :: st)) := by
  subst hp
  subst ex
  exact Go.by (fun t q => XS.istore X.here hx rfl (hb hby hd) rfl hl q) k
theorem own_istoreN (X : Stand p l e R s m args below meth c T locs cells slots) (hx : p.tables.exec = Jvm.exec) (hby : c.code = bs) {n : Fin 4} {x x' : Int32} (hd : decode bs pc = .ok (.istore_n n, 1)) (ex : x = x') {l' : Array Slot} (hl : storeLocals Ls n.val (.int x') = some l') (pc' : Nat) (hp : pc + 1 = pc') (k : Go p e below G T (mkF m pc' l' st)) : Go p e below G T (mkF m pc Ls (.int x :: st)) := by
  subst hp
  subst ex
  exact Go.by (fun t q => XS.istoreN X.here hx rfl (hb hby hd) rfl hl q) k
theorem own_lload (X : Stand p l e R s m args below meth c T locs cells slots) (hx : p.tables.exec = Jvm.exec) (hby : c.code = bs) {n : Nat} (v : Int64) (hd : decode bs pc = .ok (.lload n, 2)) (hl : Ls[n]? = some (.val (.long v))) (pc' : Nat) (hp : pc + 2 = pc') (k : Go p e below G T (mkF m pc' Ls (.long v :: st))) : Go p e below G T (mkF m pc Ls st) := by
  subst hp
  exact Go.by (fun t q => XS.lload X.here hx rfl (hb hby hd) hl q) k
theorem own_lloadN (X : Stand p l e R s m args below meth c T locs cells slots) (hx : p.tables.exec = Jvm.exec) (hby : c.code = bs) {n : Fin 4} (v : Int64) (hd : decode bs pc = .ok (.lload_n n, 1)) (hl : Ls[n.val]? = some (.val (.long v))) (pc' : Nat) (hp : pc + 1 = pc') (k : Go p e below G T (mkF m pc' Ls (.long v :: st))) : Go p e below G T (mkF m pc Ls st) := by
  subst hp
  exact Go.by (fun t q => XS.lloadN X.here hx rfl (hb hby hd) hl q) k
theorem own_lstore (X : Stand p l e R s m args below meth c T locs cells slots) (hx : p.tables.exec = Jvm.exec) (hby : c.code = bs) {n : Nat} {x x' : Int64} (hd : decode bs pc = .ok (.lstore n, 2)) (ex : x = x') {l' : Array Slot} (hl : storeLocals Ls n (.long x') = some l') (pc' : Nat) (hp : pc + 2 = pc') (k : Go p e below G T (mkF m pc' l' st)) : Go p e below G T (mkF m pc Ls (.long x :: st)) := by
  subst hp
  subst ex
  exact Go.by (fun t q => XS.lstore X.here hx rfl (hb hby hd) rfl hl q) k
theorem own_lstoreN (X : Stand p l e R s m args below meth c T locs cells slots) (hx : p.tables.exec = Jvm.exec) (hby : c.code = bs) {n : Fin 4} {x x' : Int64} (hd : decode bs pc = .ok (.lstore_n n, 1)) (ex : x = x') {l' : Array Slot} (hl : storeLocals Ls n.val (.long x') = some l') (pc' : Nat) (hp : pc + 1 = pc') (k : Go p e below G T (mkF m pc' l' st)) : Go p e below G T (mkF m pc Ls (.long x :: st)) := by
  subst hp
  subst ex
  exact Go.by (fun t q => XS.lstoreN X.here hx rfl (hb hby hd) rfl hl q) k
theorem own_aload (X : Stand p l e R s m args below meth c T locs cells slots) (hx : p.tables.exec = Jvm.exec) (hby : c.code = bs) {n : Nat} (v : Value) (hd : decode bs pc = .ok (.aload n, 2)) (hl : Ls[n]? = some (.val v)) (hv : v.isRef = true) (pc' : Nat) (hp : pc + 2 = pc') (k : Go p e below G T (mkF m pc' Ls (v :: st))) : Go p e below G T (mkF m pc Ls st) := by
  subst hp
  exact Go.by (fun t q => XS.aload X.here hx rfl (hb hby hd) hl hv q) k
theorem own_aloadN (X : Stand p l e R s m args below meth c T locs cells slots) (hx : p.tables.exec = Jvm.exec) (hby : c.code = bs) {n : Fin 4} (v : Value) (hd : decode bs pc = .ok (.aload_n n, 1)) (hl : Ls[n.val]? = some (.val v)) (hv : v.isRef = true) (pc' : Nat) (hp : pc + 1 = pc') (k : Go p e below G T (mkF m pc' Ls (v :: st))) : Go p e below G T (mkF m pc Ls st) := by
  subst hp
  exact Go.by (fun t q => XS.aloadN X.here hx rfl (hb hby hd) hl hv q) k
theorem own_astore (X : Stand p l e R s m args below meth c T locs cells slots) (hx : p.tables.exec = Jvm.exec) (hby : c.code = bs) {n : Nat} {x : Value} (hd : decode bs pc = .ok (.astore n, 2)) (hv : x.isRef = true) {l' : Array Slot} (hl : storeLocals Ls n x = some l') (pc' : Nat) (hp : pc + 2 = pc') (k : Go p e below G T (mkF m pc' l' st)) : Go p e below G T (mkF m pc Ls (x :: st)) := by
  subst hp
  exact Go.by (fun t q => XS.astore X.here hx rfl (hb hby hd) rfl hv hl q) k
theorem own_astoreN (X : Stand p l e R s m args below meth c T locs cells slots) (hx : p.tables.exec = Jvm.exec) (hby : c.code = bs) {n : Fin 4} {x : Value} (hd : decode bs pc = .ok (.astore_n n, 1)) (hv : x.isRef = true) {l' : Array Slot} (hl : storeLocals Ls n.val x = some l') (pc' : Nat) (hp : pc + 1 = pc') (k : Go p e below G T (mkF m pc' l' st)) : Go p e below G T (mkF m pc Ls (x :: st)) := by
  subst hp
  exact Go.by (fun t q => XS.astoreN X.here hx rfl (hb hby hd) rfl hv hl q) k
theorem own_iconst (X : Stand p l e R s m args below meth c T locs cells slots) (hx : p.tables.exec = Jvm.exec) (hby : c.code = bs) {i : Int} (v : Int32) (hd : decode bs pc = .ok (.iconst i, 1)) (hv : Int32.ofInt i = v) (pc' : Nat) (hp : pc + 1 = pc') (k : Go p e below G T (mkF m pc' Ls (.int v :: st))) : Go p e below G T (mkF m pc Ls st) := by
  subst hp
  subst hv
  exact Go.by (fun t q => XS.iconst X.here hx rfl (hb hby hd) q) k
theorem own_bipush (X : Stand p l e R s m args below meth c T locs cells slots) (hx : p.tables.exec = Jvm.exec) (hby : c.code = bs) {i : Int} (v : Int32) (hd : decode bs pc = .ok (.bipush i, 2)) (hv : (Int8.ofInt i).toInt32 = v) (pc' : Nat) (hp : pc + 2 = pc') (k : Go p e below G T (mkF m pc' Ls (.int v :: st))) : Go p e below G T (mkF m pc Ls st) := by
  subst hp
  subst hv
  exact Go.by (fun t q => XS.bipush X.here hx rfl (hb hby hd) q) k
theorem own_sipush (X : Stand p l e R s m args below meth c T locs cells slots) (hx : p.tables.exec = Jvm.exec) (hby : c.code = bs) {i : Int} (v : Int32) (hd : decode bs pc = .ok (.sipush i, 3)) (hv : (Int16.ofInt i).toInt32 = v) (pc' : Nat) (hp : pc + 3 = pc') (k : Go p e below G T (mkF m pc' Ls (.int v :: st))) : Go p e below G T (mkF m pc Ls st) := by
  subst hp
  subst hv
  exact Go.by (fun t q => XS.sipush X.here hx rfl (hb hby hd) q) k
theorem own_lconst (X : Stand p l e R s m args below meth c T locs cells slots) (hx : p.tables.exec = Jvm.exec) (hby : c.code = bs) {i : Fin 2} (v : Int64) (hd : decode bs pc = .ok (.lconst i, 1)) (hv : Int64.ofNat i = v) (pc' : Nat) (hp : pc + 1 = pc') (k : Go p e below G T (mkF m pc' Ls (.long v :: st))) : Go p e below G T (mkF m pc Ls st) := by
  subst hp
  subst hv
  exact Go.by (fun t q => XS.lconst X.here hx rfl (hb hby hd) q) k
theorem own_aconstNull (X : Stand p l e R s m args below meth c T locs cells slots) (hx : p.tables.exec = Jvm.exec) (hby : c.code = bs)  (hd : decode bs pc = .ok (.aconst_null, 1))  (pc' : Nat) (hp : pc + 1 = pc') (k : Go p e below G T (mkF m pc' Ls (.null :: st))) : Go p e below G T (mkF m pc Ls st) := by
  subst hp
  exact Go.by (fun t q => XS.aconstNull X.here hx rfl (hb hby hd) q) k
theorem own_iadd (X : Stand p l e R s m args below meth c T locs cells slots) (hx : p.tables.exec = Jvm.exec) (hby : c.code = bs) {x y : Int32} (hd : decode bs pc = .ok (.iadd, 1))  (pc' : Nat) (hp : pc + 1 = pc') (k : Go p e below G T (mkF m pc' Ls (.int (x + y) :: st))) : Go p e below G T (mkF m pc Ls (.int y :: .int x :: st)) := by
  subst hp
  exact Go.by (fun t q => XS.iadd X.here hx rfl (hb hby hd) rfl q) k
theorem own_isub (X : Stand p l e R s m args below meth c T locs cells slots) (hx : p.tables.exec = Jvm.exec) (hby : c.code = bs) {x y : Int32} (hd : decode bs pc = .ok (.isub, 1))  (pc' : Nat) (hp : pc + 1 = pc') (k : Go p e below G T (mkF m pc' Ls (.int (x - y) :: st))) : Go p e below G T (mkF m pc Ls (.int y :: .int x :: st)) := by
  subst hp
  exact Go.by (fun t q => XS.isub X.here hx rfl (hb hby hd) rfl q) k
theorem own_imul (X : Stand p l e R s m args below meth c T locs cells slots) (hx : p.tables.exec = Jvm.exec) (hby : c.code = bs) {x y : Int32} (hd : decode bs pc = .ok (.imul, 1))  (pc' : Nat) (hp : pc + 1 = pc') (k : Go p e below G T (mkF m pc' Ls (.int (x * y) :: st))) : Go p e below G T (mkF m pc Ls (.int y :: .int x :: st)) := by
  subst hp
  exact Go.by (fun t q => XS.imul X.here hx rfl (hb hby hd) rfl q) k
theorem own_iand (X : Stand p l e R s m args below meth c T locs cells slots) (hx : p.tables.exec = Jvm.exec) (hby : c.code = bs) {x y : Int32} (hd : decode bs pc = .ok (.iand, 1))  (pc' : Nat) (hp : pc + 1 = pc') (k : Go p e below G T (mkF m pc' Ls (.int (x &&& y) :: st))) : Go p e below G T (mkF m pc Ls (.int y :: .int x :: st)) := by
  subst hp
  exact Go.by (fun t q => XS.iand X.here hx rfl (hb hby hd) rfl q) k
theorem own_ior (X : Stand p l e R s m args below meth c T locs cells slots) (hx : p.tables.exec = Jvm.exec) (hby : c.code = bs) {x y : Int32} (hd : decode bs pc = .ok (.ior, 1))  (pc' : Nat) (hp : pc + 1 = pc') (k : Go p e below G T (mkF m pc' Ls (.int (x ||| y) :: st))) : Go p e below G T (mkF m pc Ls (.int y :: .int x :: st)) := by
  subst hp
  exact Go.by (fun t q => XS.ior X.here hx rfl (hb hby hd) rfl q) k
theorem own_ixor (X : Stand p l e R s m args below meth c T locs cells slots) (hx : p.tables.exec = Jvm.exec) (hby : c.code = bs) {x y : Int32} (hd : decode bs pc = .ok (.ixor, 1))  (pc' : Nat) (hp : pc + 1 = pc') (k : Go p e below G T (mkF m pc' Ls (.int (x ^^^ y) :: st))) : Go p e below G T (mkF m pc Ls (.int y :: .int x :: st)) := by
  subst hp
  exact Go.by (fun t q => XS.ixor X.here hx rfl (hb hby hd) rfl q) k
theorem own_ishl (X : Stand p l e R s m args below meth c T locs cells slots) (hx : p.tables.exec = Jvm.exec) (hby : c.code = bs) {x y : Int32} (hd : decode bs pc = .ok (.ishl, 1))  (pc' : Nat) (hp : pc + 1 = pc') (k : Go p e below G T (mkF m pc' Ls (.int (x <<< (y &&& 31)) :: st))) : Go p e below G T (mkF m pc Ls (.int y :: .int x :: st)) := by
  subst hp
  exact Go.by (fun t q => XS.ishl X.here hx rfl (hb hby hd) rfl q) k
theorem own_ishr (X : Stand p l e R s m args below meth c T locs cells slots) (hx : p.tables.exec = Jvm.exec) (hby : c.code = bs) {x y : Int32} (hd : decode bs pc = .ok (.ishr, 1))  (pc' : Nat) (hp : pc + 1 = pc') (k : Go p e below G T (mkF m pc' Ls (.int (x >>> (y &&& 31)) :: st))) : Go p e below G T (mkF m pc Ls (.int y :: .int x :: st)) := by
  subst hp
  exact Go.by (fun t q => XS.ishr X.here hx rfl (hb hby hd) rfl q) k
theorem own_iushr (X : Stand p l e R s m args below meth c T locs cells slots) (hx : p.tables.exec = Jvm.exec) (hby : c.code = bs) {x y : Int32} (hd : decode bs pc = .ok (.iushr, 1))  (pc' : Nat) (hp : pc + 1 = pc') (k : Go p e below G T (mkF m pc' Ls (.int ((x.toUInt32 >>> (y &&& 31).toUInt32).toInt32) :: st))) : Go p e below G T (mkF m pc Ls (.int y :: .int x :: st)) := by
  subst hp
  exact Go.by (fun t q => XS.iushr X.here hx rfl (hb hby hd) rfl q) k
theorem own_ladd (X : Stand p l e R s m args below meth c T locs cells slots) (hx : p.tables.exec = Jvm.exec) (hby : c.code = bs) {x y : Int64} (hd : decode bs pc = .ok (.ladd, 1))  (pc' : Nat) (hp : pc + 1 = pc') (k : Go p e below G T (mkF m pc' Ls (.long (x + y) :: st))) : Go p e below G T (mkF m pc Ls (.long y :: .long x :: st)) := by
  subst hp
  exact Go.by (fun t q => XS.ladd X.here hx rfl (hb hby hd) rfl q) k
theorem own_lsub (X : Stand p l e R s m args below meth c T locs cells slots) (hx : p.tables.exec = Jvm.exec) (hby : c.code = bs) {x y : Int64} (hd : decode bs pc = .ok (.lsub, 1))  (pc' : Nat) (hp : pc + 1 = pc') (k : Go p e below G T (mkF m pc' Ls (.long (x - y) :: st))) : Go p e below G T (mkF m pc Ls (.long y :: .long x :: st)) := by
  subst hp
  exact Go.by (fun t q => XS.lsub X.here hx rfl (hb hby hd) rfl q) k
theorem own_lmul (X : Stand p l e R s m args below meth c T locs cells slots) (hx : p.tables.exec = Jvm.exec) (hby : c.code = bs) {x y : Int64} (hd : decode bs pc = .ok (.lmul, 1))  (pc' : Nat) (hp : pc + 1 = pc') (k : Go p e below G T (mkF m pc' Ls (.long (x * y) :: st))) : Go p e below G T (mkF m pc Ls (.long y :: .long x :: st)) := by
  subst hp
  exact Go.by (fun t q => XS.lmul X.here hx rfl (hb hby hd) rfl q) k
theorem own_land (X : Stand p l e R s m args below meth c T locs cells slots) (hx : p.tables.exec = Jvm.exec) (hby : c.code = bs) {x y : Int64} (hd : decode bs pc = .ok (.land, 1))  (pc' : Nat) (hp : pc + 1 = pc') (k : Go p e below G T (mkF m pc' Ls (.long (x &&& y) :: st))) : Go p e below G T (mkF m pc Ls (.long y :: .long x :: st)) := by
  subst hp
  exact Go.by (fun t q => XS.land X.here hx rfl (hb hby hd) rfl q) k
theorem own_lor (X : Stand p l e R s m args below meth c T locs cells slots) (hx : p.tables.exec = Jvm.exec) (hby : c.code = bs) {x y : Int64} (hd : decode bs pc = .ok (.lor, 1))  (pc' : Nat) (hp : pc + 1 = pc') (k : Go p e below G T (mkF m pc' Ls (.long (x ||| y) :: st))) : Go p e below G T (mkF m pc Ls (.long y :: .long x :: st)) := by
  subst hp
  exact Go.by (fun t q => XS.lor X.here hx rfl (hb hby hd) rfl q) k
theorem own_lxor (X : Stand p l e R s m args below meth c T locs cells slots) (hx : p.tables.exec = Jvm.exec) (hby : c.code = bs) {x y : Int64} (hd : decode bs pc = .ok (.lxor, 1))  (pc' : Nat) (hp : pc + 1 = pc') (k : Go p e below G T (mkF m pc' Ls (.long (x ^^^ y) :: st))) : Go p e below G T (mkF m pc Ls (.long y :: .long x :: st)) := by
  subst hp
  exact Go.by (fun t q => XS.lxor X.here hx rfl (hb hby hd) rfl q) k
theorem own_lshl (X : Stand p l e R s m args below meth c T locs cells slots) (hx : p.tables.exec = Jvm.exec) (hby : c.code = bs) {x : Int64} {y : Int32} (hd : decode bs pc = .ok (.lshl, 1))  (pc' : Nat) (hp : pc + 1 = pc') (k : Go p e below G T (mkF m pc' Ls (.long (x <<< (y &&& 0x3f).toInt64) :: st))) : Go p e below G T (mkF m pc Ls (.int y :: .long x :: st)) := by
  subst hp
  exact Go.by (fun t q => XS.lshl X.here hx rfl (hb hby hd) rfl q) k
theorem own_lshr (X : Stand p l e R s m args below meth c T locs cells slots) (hx : p.tables.exec = Jvm.exec) (hby : c.code = bs) {x : Int64} {y : Int32} (hd : decode bs pc = .ok (.lshr, 1))  (pc' : Nat) (hp : pc + 1 = pc') (k : Go p e below G T (mkF m pc' Ls (.long (x >>> (y &&& 0x3f).toInt64) :: st))) : Go p e below G T (mkF m pc Ls (.int y :: .long x :: st)) := by
  subst hp
  exact Go.by (fun t q => XS.lshr X.here hx rfl (hb hby hd) rfl q) k
theorem own_lushr (X : Stand p l e R s m args below meth c T locs cells slots) (hx : p.tables.exec = Jvm.exec) (hby : c.code = bs) {x : Int64} {y : Int32} (hd : decode bs pc = .ok (.lushr, 1))  (pc' : Nat) (hp : pc + 1 = pc') (k : Go p e below G T (mkF m pc' Ls (.long ((x.toUInt64 >>> (y &&& 0x3f).toInt64.toUInt64).toInt64) :: st))) : Go p e below G T (mkF m pc Ls (.int y :: .long x :: st)) := by
  subst hp
  exact Go.by (fun t q => XS.lushr X.here hx rfl (hb hby hd) rfl q) k
theorem own_ineg (X : Stand p l e R s m args below meth c T locs cells slots) (hx : p.tables.exec = Jvm.exec) (hby : c.code = bs) {x : Int32} (hd : decode bs pc = .ok (.ineg, 1))  (pc' : Nat) (hp : pc + 1 = pc') (k : Go p e below G T (mkF m pc' Ls (.int (-x) :: st))) : Go p e below G T (mkF m pc Ls (.int x :: st)) := by
  subst hp
  exact Go.by (fun t q => XS.ineg X.here hx rfl (hb hby hd) rfl q) k
theorem own_lneg (X : Stand p l e R s m args below meth c T locs cells slots) (hx : p.tables.exec = Jvm.exec) (hby : c.code = bs) {x : Int64} (hd : decode bs pc = .ok (.lneg, 1))  (pc' : Nat) (hp : pc + 1 = pc') (k : Go p e below G T (mkF m pc' Ls (.long (-x) :: st))) : Go p e below G T (mkF m pc Ls (.long x :: st)) := by
  subst hp
  exact Go.by (fun t q => XS.lneg X.here hx rfl (hb hby hd) rfl q) k
theorem own_i2l (X : Stand p l e R s m args below meth c T locs cells slots) (hx : p.tables.exec = Jvm.exec) (hby : c.code = bs) {x : Int32} (hd : decode bs pc = .ok (.i2l, 1))  (pc' : Nat) (hp : pc + 1 = pc') (k : Go p e below G T (mkF m pc' Ls (.long (x.toInt64) :: st))) : Go p e below G T (mkF m pc Ls (.int x :: st)) := by
  subst hp
  exact Go.by (fun t q => XS.i2l X.here hx rfl (hb hby hd) rfl q) k
theorem own_l2i (X : Stand p l e R s m args below meth c T locs cells slots) (hx : p.tables.exec = Jvm.exec) (hby : c.code = bs) {x : Int64} (hd : decode bs pc = .ok (.l2i, 1))  (pc' : Nat) (hp : pc + 1 = pc') (k : Go p e below G T (mkF m pc' Ls (.int (x.toInt32) :: st))) : Go p e below G T (mkF m pc Ls (.long x :: st)) := by
  subst hp
  exact Go.by (fun t q => XS.l2i X.here hx rfl (hb hby hd) rfl q) k
theorem own_i2b (X : Stand p l e R s m args below meth c T locs cells slots) (hx : p.tables.exec = Jvm.exec) (hby : c.code = bs) {x : Int32} (hd : decode bs pc = .ok (.i2b, 1))  (pc' : Nat) (hp : pc + 1 = pc') (k : Go p e below G T (mkF m pc' Ls (.int (x.toInt8.toInt32) :: st))) : Go p e below G T (mkF m pc Ls (.int x :: st)) := by
  subst hp
  exact Go.by (fun t q => XS.i2b X.here hx rfl (hb hby hd) rfl q) k
theorem own_i2s (X : Stand p l e R s m args below meth c T locs cells slots) (hx : p.tables.exec = Jvm.exec) (hby : c.code = bs) {x : Int32} (hd : decode bs pc = .ok (.i2s, 1))  (pc' : Nat) (hp : pc + 1 = pc') (k : Go p e below G T (mkF m pc' Ls (.int (x.toInt16.toInt32) :: st))) : Go p e below G T (mkF m pc Ls (.int x :: st)) := by
  subst hp
  exact Go.by (fun t q => XS.i2s X.here hx rfl (hb hby hd) rfl q) k
theorem own_i2c (X : Stand p l e R s m args below meth c T locs cells slots) (hx : p.tables.exec = Jvm.exec) (hby : c.code = bs) {x : Int32} (hd : decode bs pc = .ok (.i2c, 1))  (pc' : Nat) (hp : pc + 1 = pc') (k : Go p e below G T (mkF m pc' Ls (.int (x.toUInt32.toUInt16.toUInt32.toInt32) :: st))) : Go p e below G T (mkF m pc Ls (.int x :: st)) := by
  subst hp
  exact Go.by (fun t q => XS.i2c X.here hx rfl (hb hby hd) rfl q) k
theorem own_idiv (X : Stand p l e R s m args below meth c T locs cells slots) (hx : p.tables.exec = Jvm.exec) (hby : c.code = bs) {x y : Int32} (hd : decode bs pc = .ok (.idiv, 1)) (hy : y ≠ 0) (pc' : Nat) (hp : pc + 1 = pc') (k : Go p e below G T (mkF m pc' Ls (.int (x / y) :: st))) : Go p e below G T (mkF m pc Ls (.int y :: .int x :: st)) := by
  subst hp
  exact Go.by (fun t q => XS.idiv X.here hx rfl (hb hby hd) rfl hy q) k
theorem own_ldiv (X : Stand p l e R s m args below meth c T locs cells slots) (hx : p.tables.exec = Jvm.exec) (hby : c.code = bs) {x y : Int64} (hd : decode bs pc = .ok (.ldiv, 1)) (hy : y ≠ 0) (pc' : Nat) (hp : pc + 1 = pc') (k : Go p e below G T (mkF m pc' Ls (.long (x / y) :: st))) : Go p e below G T (mkF m pc Ls (.long y :: .long x :: st)) := by
  subst hp
  exact Go.by (fun t q => XS.ldiv X.here hx rfl (hb hby hd) rfl hy q) k
theorem own_irem (X : Stand p l e R s m args below meth c T locs cells slots) (hx : p.tables.exec = Jvm.exec) (hby : c.code = bs) {x y : Int32} (hd : decode bs pc = .ok (.irem, 1)) (hy : y ≠ 0) (pc' : Nat) (hp : pc + 1 = pc') (k : Go p e below G T (mkF m pc' Ls (.int (x % y) :: st))) : Go p e below G T (mkF m pc Ls (.int y :: .int x :: st)) := by
  subst hp
  exact Go.by (fun t q => iremM X hx rfl (hb hby hd) rfl hy q) k
theorem own_lrem (X : Stand p l e R s m args below meth c T locs cells slots) (hx : p.tables.exec = Jvm.exec) (hby : c.code = bs) {x y : Int64} (hd : decode bs pc = .ok (.lrem, 1)) (hy : y ≠ 0) (pc' : Nat) (hp : pc + 1 = pc') (k : Go p e below G T (mkF m pc' Ls (.long (x % y) :: st))) : Go p e below G T (mkF m pc Ls (.long y :: .long x :: st)) := by
  subst hp
  rw [← lrem_mod] at k
  exact Go.by (fun t q => XS.lrem X.here hx rfl (hb hby hd) rfl hy q) k
theorem own_iinc (X : Stand p l e R s m args below meth c T locs cells slots) (hx : p.tables.exec = Jvm.exec) (hby : c.code = bs) {n : Nat} {cst : Int} {x x' : Int32} (hd : decode bs pc = .ok (.iinc n cst, 3)) (hl : Ls[n]? = some (.val (.int x))) (ex : x + Int32.ofInt cst = x') {l' : Array Slot} (hl' : storeLocals Ls n (.int x') = some l') (pc' : Nat) (hp : pc + 3 = pc') (k : Go p e below G T (mkF m pc' l' st)) : Go p e below G T (mkF m pc Ls st) := by
  subst hp
  subst ex
  exact Go.by (fun t q => XS.iinc X.here hx rfl (hb hby hd) hl hl' q) k
theorem own_dup (X : Stand p l e R s m args below meth c T locs cells slots) (hx : p.tables.exec = Jvm.exec) (hby : c.code = bs) {x : Value} (hd : decode bs pc = .ok (.dup, 1)) (hc : x.category = 1) (pc' : Nat) (hp : pc + 1 = pc') (k : Go p e below G T (mkF m pc' Ls (x :: x :: st))) : Go p e below G T (mkF m pc Ls (x :: st)) := by
  subst hp
  exact Go.by (fun t q => XS.dup X.here hx rfl (hb hby hd) rfl hc q) k
theorem own_pop (X : Stand p l e R s m args below meth c T locs cells slots) (hx : p.tables.exec = Jvm.exec) (hby : c.code = bs) {x : Value} (hd : decode bs pc = .ok (.pop, 1)) (hc : x.category = 1) (pc' : Nat) (hp : pc + 1 = pc') (k : Go p e below G T (mkF m pc' Ls st)) : Go p e below G T (mkF m pc Ls (x :: st)) := by
  subst hp
  exact Go.by (fun t q => XS.pop X.here hx rfl (hb hby hd) rfl hc q) k
theorem own_dupX1 (X : Stand p l e R s m args below meth c T locs cells slots) (hx : p.tables.exec = Jvm.exec) (hby : c.code = bs) {x y : Value} (hd : decode bs pc = .ok (.dup_x1, 1)) (hc : x.category = 1) (hc2 : y.category = 1) (pc' : Nat) (hp : pc + 1 = pc') (k : Go p e below G T (mkF m pc' Ls (x :: y :: x :: st))) : Go p e below G T (mkF m pc Ls (x :: y :: st)) := by
  subst hp
  exact Go.by (fun t q => XS.dupX1 X.here hx rfl (hb hby hd) rfl hc hc2 q) k
theorem own_dup2 (X : Stand p l e R s m args below meth c T locs cells slots) (hx : p.tables.exec = Jvm.exec) (hby : c.code = bs) {x y : Value} (hd : decode bs pc = .ok (.dup2, 1)) (hc : x.category = 1) (hc2 : y.category = 1) (pc' : Nat) (hp : pc + 1 = pc') (k : Go p e below G T (mkF m pc' Ls (x :: y :: x :: y :: st))) : Go p e below G T (mkF m pc Ls (x :: y :: st)) := by
  subst hp
  exact Go.by (fun t q => XT.dup2 X.here hx rfl (hb hby hd) rfl hc hc2 q) k
theorem own_dup2L (X : Stand p l e R s m args below meth c T locs cells slots) (hx : p.tables.exec = Jvm.exec) (hby : c.code = bs) {x : Int64} (hd : decode bs pc = .ok (.dup2, 1))  (pc' : Nat) (hp : pc + 1 = pc') (k : Go p e below G T (mkF m pc' Ls (.long x :: .long x :: st))) : Go p e below G T (mkF m pc Ls (.long x :: st)) := by
  subst hp
  exact Go.by (fun t q => XT.dup2L X.here hx rfl (hb hby hd) rfl q) k
theorem own_goto (X : Stand p l e R s m args below meth c T locs cells slots) (hx : p.tables.exec = Jvm.exec) (hby : c.code = bs) {o : Int} (hd : decode bs pc = .ok (.goto o, 3)) (pc' : Nat) (hp : 0 ≤ (pc : Int) + o ∧ ((pc : Int) + o).toNat = pc') (k : Go p e below G T (mkF m pc' Ls st)) : Go p e below G T (mkF m pc Ls st) :=
  Go.by (fun t q => XS.goto X.here hx rfl rfl (hb hby hd) hp.1 hp.2 q) k
theorem own_top {v v' : Value} (q : v = v') (k : Go p e below G T (mkF m pc Ls (v' :: st))) : Go p e below G T (mkF m pc Ls (v :: st)) := q ▸ k
theorem own_icmp_eq (X : Stand p l e R s m args below meth c T locs cells slots) (hx : p.tables.exec = Jvm.exec) (hby : c.code = bs) {o : Int} {x y : Int32} (hd : decode bs pc = .ok (.if_icmp .eq o, 3)) (pT pF : Nat) (hp : 0 ≤ (pc : Int) + o ∧ ((pc : Int) + o).toNat = pT) (hpF : pc + 3 = pF) (kT : x = y → Go p e below G T (mkF m pT Ls st)) (kF : ¬ x = y → Go p e below G T (mkF m pF Ls st)) : Go p e below G T (mkF m pc Ls (.int y :: .int x :: st)) := by
  subst hpF
  by_cases q0 : x = y
  · have q := q0
    exact Go.by (fun t r => XS.icmpYes X.here hx rfl rfl (hb hby hd) rfl (teq q).1 hp.1 hp.2 r) (kT q0)
  · have q : ¬ x = y := by first | exact q0 | exact Classical.not_not.mp q0
    exact Go.by (fun t r => XS.icmpNo X.here hx rfl (hb hby hd) rfl (feq q).1 r) (kF q)
theorem own_if_eq (X : Stand p l e R s m args below meth c T locs cells slots) (hx : p.tables.exec = Jvm.exec) (hby : c.code = bs) {o : Int} {x : Int32} (hd : decode bs pc = .ok (.ifCond .eq o, 3)) (pT pF : Nat) (hp : 0 ≤ (pc : Int) + o ∧ ((pc : Int) + o).toNat = pT) (hpF : pc + 3 = pF) (kT : x = (0 : Int32) → Go p e below G T (mkF m pT Ls st)) (kF : ¬ x = (0 : Int32) → Go p e below G T (mkF m pF Ls st)) : Go p e below G T (mkF m pc Ls (.int x :: st)) := by
  subst hpF
  by_cases q0 : x = (0 : Int32)
  · have q := q0
    exact Go.by (fun t r => XS.ifYes X.here hx rfl rfl (hb hby hd) rfl ((if0 _ _).trans (teq q).1) hp.1 hp.2 r) (kT q0)
  · have q : ¬ x = (0 : Int32) := by first | exact q0 | exact Classical.not_not.mp q0
    exact Go.by (fun t r => XS.ifNo X.here hx rfl (hb hby hd) rfl ((if0 _ _).trans (feq q).1) r) (kF q)
theorem own_lcmp_eq (X : Stand p l e R s m args below meth c T locs cells slots) (hx : p.tables.exec = Jvm.exec) (hby : c.code = bs) {o : Int} {x y : Int64} (hd : decode bs pc = .ok (.lcmp, 1)) (hd2 : decode bs (pc + 1) = .ok (.ifCond .eq o, 3)) (pT pF : Nat) (hp : 0 ≤ ((pc + 1 : Nat) : Int) + o ∧ (((pc + 1 : Nat) : Int) + o).toNat = pT) (hpF : pc + 4 = pF) (kT : x = y → Go p e below G T (mkF m pT Ls st)) (kF : ¬ x = y → Go p e below G T (mkF m pF Ls st)) : Go p e below G T (mkF m pc Ls (.long y :: .long x :: st)) := by
  refine Go.by (fun t r => XS.lcmp X.here hx rfl (hb hby hd) rfl r) (g' := mkF m (pc + 1) Ls (.int (lcmpW x y) :: st)) ?_
  refine own_if_eq X hx hby hd2 pT pF hp (by omega) (fun q => kT ?_) (fun q => kF ?_)
  · exact (lw_eq x y).mp q
  · exact fun r => q ((lw_eq x y).mpr r)
theorem own_icmp_ne (X : Stand p l e R s m args below meth c T locs cells slots) (hx : p.tables.exec = Jvm.exec) (hby : c.code = bs) {o : Int} {x y : Int32} (hd : decode bs pc = .ok (.if_icmp .ne o, 3)) (pT pF : Nat) (hp : 0 ≤ (pc : Int) + o ∧ ((pc : Int) + o).toNat = pT) (hpF : pc + 3 = pF) (kT : ¬ x = y → Go p e below G T (mkF m pT Ls st)) (kF : x = y → Go p e below G T (mkF m pF Ls st)) : Go p e below G T (mkF m pc Ls (.int y :: .int x :: st)) := by
  subst hpF
  by_cases q0 : ¬ x = y
  · have q := q0
    exact Go.by (fun t r => XS.icmpYes X.here hx rfl rfl (hb hby hd) rfl (feq q).2 hp.1 hp.2 r) (kT q0)
  · have q : x = y := by first | exact q0 | exact Classical.not_not.mp q0
    exact Go.by (fun t r => XS.icmpNo X.here hx rfl (hb hby hd) rfl (teq q).2 r) (kF q)
theorem own_if_ne (X : Stand p l e R s m args below meth c T locs cells slots) (hx : p.tables.exec = Jvm.exec) (hby : c.code = bs) {o : Int} {x : Int32} (hd : decode bs pc = .ok (.ifCond .ne o, 3)) (pT pF : Nat) (hp : 0 ≤ (pc : Int) + o ∧ ((pc : Int) + o).toNat = pT) (hpF : pc + 3 = pF) (kT : ¬ x = (0 : Int32) → Go p e below G T (mkF m pT Ls st)) (kF : x = (0 : Int32) → Go p e below G T (mkF m pF Ls st)) : Go p e below G T (mkF m pc Ls (.int x :: st)) := by
  subst hpF
  by_cases q0 : ¬ x = (0 : Int32)
  · have q := q0
    exact Go.by (fun t r => XS.ifYes X.here hx rfl rfl (hb hby hd) rfl ((if0 _ _).trans (feq q).2) hp.1 hp.2 r) (kT q0)
  · have q : x = (0 : Int32) := by first | exact q0 | exact Classical.not_not.mp q0
    exact Go.by (fun t r => XS.ifNo X.here hx rfl (hb hby hd) rfl ((if0 _ _).trans (teq q).2) r) (kF q)
theorem own_lcmp_ne (X : Stand p l e R s m args below meth c T locs cells slots) (hx : p.tables.exec = Jvm.exec) (hby : c.code = bs) {o : Int} {x y : Int64} (hd : decode bs pc = .ok (.lcmp, 1)) (hd2 : decode bs (pc + 1) = .ok (.ifCond .ne o, 3)) (pT pF : Nat) (hp : 0 ≤ ((pc + 1 : Nat) : Int) + o ∧ (((pc + 1 : Nat) : Int) + o).toNat = pT) (hpF : pc + 4 = pF) (kT : ¬ x = y → Go p e below G T (mkF m pT Ls st)) (kF : x = y → Go p e below G T (mkF m pF Ls st)) : Go p e below G T (mkF m pc Ls (.long y :: .long x :: st)) := by
  refine Go.by (fun t r => XS.lcmp X.here hx rfl (hb hby hd) rfl r) (g' := mkF m (pc + 1) Ls (.int (lcmpW x y) :: st)) ?_
  refine own_if_ne X hx hby hd2 pT pF hp (by omega) (fun q => kT ?_) (fun q => kF ?_)
  · exact fun r => q ((lw_eq x y).mpr r)
  · exact (lw_eq x y).mp q
theorem own_icmp_lt (X : Stand p l e R s m args below meth c T locs cells slots) (hx : p.tables.exec = Jvm.exec) (hby : c.code = bs) {o : Int} {x y : Int32} (hd : decode bs pc = .ok (.if_icmp .lt o, 3)) (pT pF : Nat) (hp : 0 ≤ (pc : Int) + o ∧ ((pc : Int) + o).toNat = pT) (hpF : pc + 3 = pF) (kT : x < y → Go p e below G T (mkF m pT Ls st)) (kF : ¬ x < y → Go p e below G T (mkF m pF Ls st)) : Go p e below G T (mkF m pc Ls (.int y :: .int x :: st)) := by
  subst hpF
  by_cases q0 : x < y
  · have q := q0
    exact Go.by (fun t r => XS.icmpYes X.here hx rfl rfl (hb hby hd) rfl (tlt q).1 hp.1 hp.2 r) (kT q0)
  · have q : ¬ x < y := by first | exact q0 | exact Classical.not_not.mp q0
    exact Go.by (fun t r => XS.icmpNo X.here hx rfl (hb hby hd) rfl (flt q).1 r) (kF q)
theorem own_if_lt (X : Stand p l e R s m args below meth c T locs cells slots) (hx : p.tables.exec = Jvm.exec) (hby : c.code = bs) {o : Int} {x : Int32} (hd : decode bs pc = .ok (.ifCond .lt o, 3)) (pT pF : Nat) (hp : 0 ≤ (pc : Int) + o ∧ ((pc : Int) + o).toNat = pT) (hpF : pc + 3 = pF) (kT : x < (0 : Int32) → Go p e below G T (mkF m pT Ls st)) (kF : ¬ x < (0 : Int32) → Go p e below G T (mkF m pF Ls st)) : Go p e below G T (mkF m pc Ls (.int x :: st)) := by
  subst hpF
  by_cases q0 : x < (0 : Int32)
  · have q := q0
    exact Go.by (fun t r => XS.ifYes X.here hx rfl rfl (hb hby hd) rfl ((if0 _ _).trans (tlt q).1) hp.1 hp.2 r) (kT q0)
  · have q : ¬ x < (0 : Int32) := by first | exact q0 | exact Classical.not_not.mp q0
    exact Go.by (fun t r => XS.ifNo X.here hx rfl (hb hby hd) rfl ((if0 _ _).trans (flt q).1) r) (kF q)
theorem own_lcmp_lt (X : Stand p l e R s m args below meth c T locs cells slots) (hx : p.tables.exec = Jvm.exec) (hby : c.code = bs) {o : Int} {x y : Int64} (hd : decode bs pc = .ok (.lcmp, 1)) (hd2 : decode bs (pc + 1) = .ok (.ifCond .lt o, 3)) (pT pF : Nat) (hp : 0 ≤ ((pc + 1 : Nat) : Int) + o ∧ (((pc + 1 : Nat) : Int) + o).toNat = pT) (hpF : pc + 4 = pF) (kT : x < y → Go p e below G T (mkF m pT Ls st)) (kF : ¬ x < y → Go p e below G T (mkF m pF Ls st)) : Go p e below G T (mkF m pc Ls (.long y :: .long x :: st)) := by
  refine Go.by (fun t r => XS.lcmp X.here hx rfl (hb hby hd) rfl r) (g' := mkF m (pc + 1) Ls (.int (lcmpW x y) :: st)) ?_
  refine own_if_lt X hx hby hd2 pT pF hp (by omega) (fun q => kT ?_) (fun q => kF ?_)
  · exact (lw_lt x y).mp q
  · exact fun r => q ((lw_lt x y).mpr r)
theorem own_icmp_ge (X : Stand p l e R s m args below meth c T locs cells slots) (hx : p.tables.exec = Jvm.exec) (hby : c.code = bs) {o : Int} {x y : Int32} (hd : decode bs pc = .ok (.if_icmp .ge o, 3)) (pT pF : Nat) (hp : 0 ≤ (pc : Int) + o ∧ ((pc : Int) + o).toNat = pT) (hpF : pc + 3 = pF) (kT : ¬ x < y → Go p e below G T (mkF m pT Ls st)) (kF : x < y → Go p e below G T (mkF m pF Ls st)) : Go p e below G T (mkF m pc Ls (.int y :: .int x :: st)) := by
  subst hpF
  by_cases q0 : ¬ x < y
  · have q := q0
    exact Go.by (fun t r => XS.icmpYes X.here hx rfl rfl (hb hby hd) rfl (flt q).2.1 hp.1 hp.2 r) (kT q0)
  · have q : x < y := by first | exact q0 | exact Classical.not_not.mp q0
    exact Go.by (fun t r => XS.icmpNo X.here hx rfl (hb hby hd) rfl (tlt q).2.1 r) (kF q)
theorem own_if_ge (X : Stand p l e R s m args below meth c T locs cells slots) (hx : p.tables.exec = Jvm.exec) (hby : c.code = bs) {o : Int} {x : Int32} (hd : decode bs pc = .ok (.ifCond .ge o, 3)) (pT pF : Nat) (hp : 0 ≤ (pc : Int) + o ∧ ((pc : Int) + o).toNat = pT) (hpF : pc + 3 = pF) (kT : ¬ x < (0 : Int32) → Go p e below G T (mkF m pT Ls st)) (kF : x < (0 : Int32) → Go p e below G T (mkF m pF Ls st)) : Go p e below G T (mkF m pc Ls (.int x :: st)) := by
  subst hpF
  by_cases q0 : ¬ x < (0 : Int32)
  · have q := q0
    exact Go.by (fun t r => XS.ifYes X.here hx rfl rfl (hb hby hd) rfl ((if0 _ _).trans (flt q).2.1) hp.1 hp.2 r) (kT q0)
  · have q : x < (0 : Int32) := by first | exact q0 | exact Classical.not_not.mp q0
    exact Go.by (fun t r => XS.ifNo X.here hx rfl (hb hby hd) rfl ((if0 _ _).trans (tlt q).2.1) r) (kF q)
theorem own_lcmp_ge (X : Stand p l e R s m args below meth c T locs cells slots) (hx : p.tables.exec = Jvm.exec) (hby : c.code = bs) {o : Int} {x y : Int64} (hd : decode bs pc = .ok (.lcmp, 1)) (hd2 : decode bs (pc + 1) = .ok (.ifCond .ge o, 3)) (pT pF : Nat) (hp : 0 ≤ ((pc + 1 : Nat) : Int) + o ∧ (((pc + 1 : Nat) : Int) + o).toNat = pT) (hpF : pc + 4 = pF) (kT : ¬ x < y → Go p e below G T (mkF m pT Ls st)) (kF : x < y → Go p e below G T (mkF m pF Ls st)) : Go p e below G T (mkF m pc Ls (.long y :: .long x :: st)) := by
  refine Go.by (fun t r => XS.lcmp X.here hx rfl (hb hby hd) rfl r) (g' := mkF m (pc + 1) Ls (.int (lcmpW x y) :: st)) ?_
  refine own_if_ge X hx hby hd2 pT pF hp (by omega) (fun q => kT ?_) (fun q => kF ?_)
  · exact fun r => q ((lw_lt x y).mpr r)
  · exact (lw_lt x y).mp q
theorem own_icmp_gt (X : Stand p l e R s m args below meth c T locs cells slots) (hx : p.tables.exec = Jvm.exec) (hby : c.code = bs) {o : Int} {x y : Int32} (hd : decode bs pc = .ok (.if_icmp .gt o, 3)) (pT pF : Nat) (hp : 0 ≤ (pc : Int) + o ∧ ((pc : Int) + o).toNat = pT) (hpF : pc + 3 = pF) (kT : y < x → Go p e below G T (mkF m pT Ls st)) (kF : ¬ y < x → Go p e below G T (mkF m pF Ls st)) : Go p e below G T (mkF m pc Ls (.int y :: .int x :: st)) := by
  subst hpF
  by_cases q0 : y < x
  · have q := q0
    exact Go.by (fun t r => XS.icmpYes X.here hx rfl rfl (hb hby hd) rfl (tlt q).2.2.1 hp.1 hp.2 r) (kT q0)
  · have q : ¬ y < x := by first | exact q0 | exact Classical.not_not.mp q0
    exact Go.by (fun t r => XS.icmpNo X.here hx rfl (hb hby hd) rfl (flt q).2.2.1 r) (kF q)
theorem own_if_gt (X : Stand p l e R s m args below meth c T locs cells slots) (hx : p.tables.exec = Jvm.exec) (hby : c.code = bs) {o : Int} {x : Int32} (hd : decode bs pc = .ok (.ifCond .gt o, 3)) (pT pF : Nat) (hp : 0 ≤ (pc : Int) + o ∧ ((pc : Int) + o).toNat = pT) (hpF : pc + 3 = pF) (kT : (0 : Int32) < x → Go p e below G T (mkF m pT Ls st)) (kF : ¬ (0 : Int32) < x → Go p e below G T (mkF m pF Ls st)) : Go p e below G T (mkF m pc Ls (.int x :: st)) := by
  subst hpF
  by_cases q0 : (0 : Int32) < x
  · have q := q0
    exact Go.by (fun t r => XS.ifYes X.here hx rfl rfl (hb hby hd) rfl ((if0 _ _).trans (tlt q).2.2.1) hp.1 hp.2 r) (kT q0)
  · have q : ¬ (0 : Int32) < x := by first | exact q0 | exact Classical.not_not.mp q0
    exact Go.by (fun t r => XS.ifNo X.here hx rfl (hb hby hd) rfl ((if0 _ _).trans (flt q).2.2.1) r) (kF q)
theorem own_lcmp_gt (X : Stand p l e R s m args below meth c T locs cells slots) (hx : p.tables.exec = Jvm.exec) (hby : c.code = bs) {o : Int} {x y : Int64} (hd : decode bs pc = .ok (.lcmp, 1)) (hd2 : decode bs (pc + 1) = .ok (.ifCond .gt o, 3)) (pT pF : Nat) (hp : 0 ≤ ((pc + 1 : Nat) : Int) + o ∧ (((pc + 1 : Nat) : Int) + o).toNat = pT) (hpF : pc + 4 = pF) (kT : y < x → Go p e below G T (mkF m pT Ls st)) (kF : ¬ y < x → Go p e below G T (mkF m pF Ls st)) : Go p e below G T (mkF m pc Ls (.long y :: .long x :: st)) := by
  refine Go.by (fun t r => XS.lcmp X.here hx rfl (hb hby hd) rfl r) (g' := mkF m (pc + 1) Ls (.int (lcmpW x y) :: st)) ?_
  refine own_if_gt X hx hby hd2 pT pF hp (by omega) (fun q => kT ?_) (fun q => kF ?_)
  · exact (lw_gt x y).mp q
  · exact fun r => q ((lw_gt x y).mpr r)
theorem own_icmp_le (X : Stand p l e R s m args below meth c T locs cells slots) (hx : p.tables.exec = Jvm.exec) (hby : c.code = bs) {o : Int} {x y : Int32} (hd : decode bs pc = .ok (.if_icmp .le o, 3)) (pT pF : Nat) (hp : 0 ≤ (pc : Int) + o ∧ ((pc : Int) + o).toNat = pT) (hpF : pc + 3 = pF) (kT : ¬ y < x → Go p e below G T (mkF m pT Ls st)) (kF : y < x → Go p e below G T (mkF m pF Ls st)) : Go p e below G T (mkF m pc Ls (.int y :: .int x :: st)) := by
  subst hpF
  by_cases q0 : ¬ y < x
  · have q := q0
    exact Go.by (fun t r => XS.icmpYes X.here hx rfl rfl (hb hby hd) rfl (flt q).2.2.2 hp.1 hp.2 r) (kT q0)
  · have q : y < x := by first | exact q0 | exact Classical.not_not.mp q0
    exact Go.by (fun t r => XS.icmpNo X.here hx rfl (hb hby hd) rfl (tlt q).2.2.2 r) (kF q)
theorem own_if_le (X : Stand p l e R s m args below meth c T locs cells slots) (hx : p.tables.exec = Jvm.exec) (hby : c.code = bs) {o : Int} {x : Int32} (hd : decode bs pc = .ok (.ifCond .le o, 3)) (pT pF : Nat) (hp : 0 ≤ (pc : Int) + o ∧ ((pc : Int) + o).toNat = pT) (hpF : pc + 3 = pF) (kT : ¬ (0 : Int32) < x → Go p e below G T (mkF m pT Ls st)) (kF : (0 : Int32) < x → Go p e below G T (mkF m pF Ls st)) : Go p e below G T (mkF m pc Ls (.int x :: st)) := by
  subst hpF
  by_cases q0 : ¬ (0 : Int32) < x
  · have q := q0
    exact Go.by (fun t r => XS.ifYes X.here hx rfl rfl (hb hby hd) rfl ((if0 _ _).trans (flt q).2.2.2) hp.1 hp.2 r) (kT q0)
  · have q : (0 : Int32) < x := by first | exact q0 | exact Classical.not_not.mp q0
    exact Go.by (fun t r => XS.ifNo X.here hx rfl (hb hby hd) rfl ((if0 _ _).trans (tlt q).2.2.2) r) (kF q)
theorem own_lcmp_le (X : Stand p l e R s m args below meth c T locs cells slots) (hx : p.tables.exec = Jvm.exec) (hby : c.code = bs) {o : Int} {x y : Int64} (hd : decode bs pc = .ok (.lcmp, 1)) (hd2 : decode bs (pc + 1) = .ok (.ifCond .le o, 3)) (pT pF : Nat) (hp : 0 ≤ ((pc + 1 : Nat) : Int) + o ∧ (((pc + 1 : Nat) : Int) + o).toNat = pT) (hpF : pc + 4 = pF) (kT : ¬ y < x → Go p e below G T (mkF m pT Ls st)) (kF : y < x → Go p e below G T (mkF m pF Ls st)) : Go p e below G T (mkF m pc Ls (.long y :: .long x :: st)) := by
  refine Go.by (fun t r => XS.lcmp X.here hx rfl (hb hby hd) rfl r) (g' := mkF m (pc + 1) Ls (.int (lcmpW x y) :: st)) ?_
  refine own_if_le X hx hby hd2 pT pF hp (by omega) (fun q => kT ?_) (fun q => kF ?_)
  · exact fun r => q ((lw_gt x y).mpr r)
  · exact (lw_gt x y).mp q
theorem own_ifnullY (X : Stand p l e R s m args below meth c T locs cells slots) (hx : p.tables.exec = Jvm.exec) (hby : c.code = bs) {o : Int}  (hd : decode bs pc = .ok (.ifnull o, 3)) (pc' : Nat) (hp : 0 ≤ (pc : Int) + o ∧ ((pc : Int) + o).toNat = pc') (k : Go p e below G T (mkF m pc' Ls st)) : Go p e below G T (mkF m pc Ls (.null :: st)) :=
  Go.by (fun t q => XS.ifnullYes X.here hx rfl rfl (hb hby hd) rfl hp.1 hp.2 q) k
theorem own_ifnullN (X : Stand p l e R s m args below meth c T locs cells slots) (hx : p.tables.exec = Jvm.exec) (hby : c.code = bs) {o : Int} {b : Addr} (hd : decode bs pc = .ok (.ifnull o, 3)) (pc' : Nat) (hp : pc + 3 = pc') (k : Go p e below G T (mkF m pc' Ls st)) : Go p e below G T (mkF m pc Ls (.ref b :: st)) := by
  subst hp
  exact Go.by (fun t q => XS.ifnullNo X.here hx rfl (hb hby hd) rfl q) k
theorem own_ifnonnullY (X : Stand p l e R s m args below meth c T locs cells slots) (hx : p.tables.exec = Jvm.exec) (hby : c.code = bs) {o : Int} {b : Addr} (hd : decode bs pc = .ok (.ifnonnull o, 3)) (pc' : Nat) (hp : 0 ≤ (pc : Int) + o ∧ ((pc : Int) + o).toNat = pc') (k : Go p e below G T (mkF m pc' Ls st)) : Go p e below G T (mkF m pc Ls (.ref b :: st)) :=
  Go.by (fun t q => XS.ifnonnullYes X.here hx rfl rfl (hb hby hd) rfl hp.1 hp.2 q) k
theorem own_ifnonnullN (X : Stand p l e R s m args below meth c T locs cells slots) (hx : p.tables.exec = Jvm.exec) (hby : c.code = bs) {o : Int}  (hd : decode bs pc = .ok (.ifnonnull o, 3)) (pc' : Nat) (hp : pc + 3 = pc') (k : Go p e below G T (mkF m pc' Ls st)) : Go p e below G T (mkF m pc Ls (.null :: st)) := by
  subst hp
  exact Go.by (fun t q => XS.ifnonnullNo X.here hx rfl (hb hby hd) rfl q) k
theorem own_ldc (X : Stand p l e R s m args below meth c T locs cells slots) (hx : p.tables.exec = Jvm.exec) (hby : c.code = bs) (hZ : Z.Warmed39 s.vm) {own : String} {idx : Nat} (v : Int32) (hown : s.vm.findClass own = some m.cls) (w : (Jvm.Cond.constant own idx v).before a0 Z = true) (hd : decode bs pc = .ok (.ldc idx, 2)) (pc' : Nat) (hp : pc + 2 = pc') (k : Go p e below G T (mkF m pc' Ls (.int v :: st))) : Go p e below G T (mkF m pc Ls st) := by
  subst hp
  exact Go.by (fun t q => X.ldcInt hx hown (mvT hZ w) (g := mkF m pc Ls st) rfl (hb hby hd) t q) k
theorem own_ldc2 (X : Stand p l e R s m args below meth c T locs cells slots) (hx : p.tables.exec = Jvm.exec) (hby : c.code = bs) (hZ : Z.Warmed39 s.vm) {own : String} {idx : Nat} (v : Int64) (hown : s.vm.findClass own = some m.cls) (w : (Jvm.Cond.constantLong own idx v).before a0 Z = true) (hd : decode bs pc = .ok (.ldc2_w idx, 3)) (pc' : Nat) (hp : pc + 3 = pc') (k : Go p e below G T (mkF m pc' Ls (.long v :: st))) : Go p e below G T (mkF m pc Ls st) := by
  subst hp
  exact Go.by (fun t q => X.ldc2Long hx hown (mvT hZ w) (g := mkF m pc Ls st) rfl (hb hby hd) t q) k
theorem own_callS (X : Stand p l e R s m args below meth c T locs cells slots) (hx : p.tables.exec = Jvm.exec) (hby : c.code = bs) (hZ : Z.Warmed39 s.vm) {own : String} {idx : Nat} {y : MethodName} {yb : ByteArray} {yml : Nat} {yrt : Option FieldType} {rm : Room} {as : Array Value} {Qc : Option Value → Heap → List Loc → Prop} (argsL : List Value) (has : argsL.toArray = as) (hown : s.vm.findClass own = some m.cls) (w1 : (Jvm.Cond.methodLink own idx y).before a0 Z = true) (w2 : (Jvm.Cond.static y).before a0 Z = true) (w3 : (Jvm.Cond.initialized y.cls).before a0 Z = true) (w4 : (Jvm.Cond.code y yb yml yrt).before a0 Z = true) (hy : y.cls ≠ "java/lang/invoke/MethodHandle" ∧ y.cls ≠ "java/lang/invoke/VarHandle") (hd : decode bs pc = .ok (.invokestatic idx, 3)) (hM : Met1 l Z y yb yml yrt rm as h Qc) (eT : T.heap = h) {ps : List FieldType} {pr : Option FieldType} (hpd : parseMethodDescriptor y.desc = some ⟨ps, pr⟩) (hlen : argsL.length = ps.length) (hml : Ls.size = c.maxLocals) (hf : rm.frames + 1 ≤ R.frames) (W : Nat) (hW : (st.map fun v => v.category).sum = W) (hl : W + (yml + 11) + rm.locals ≤ R.locals) (hcl : cells + rm.cells ≤ R.cells) (hsl : slots + rm.slots ≤ R.slots) (pc' : Nat) (hp : pc + 3 = pc') (k : ∀ (T' : State) (L : List Loc) (v : Option Value), Stand p l e R s m args below meth c T' (locs ++ L) (cells + rm.cells) (slots + rm.slots) → Qc v T'.heap L → Go p e below G T' (mkF m pc' Ls (v.toList ++ st))) : Go p e below G T (mkF m pc Ls (argsL.reverse ++ st)) := by
  subst has
  subst hp
  obtain ⟨v, vm₁, ⟨T1, L1, k1, n1⟩, -, X1, ⟨Lc, hQ, l1, y1, z1⟩, st1⟩ := Jvm.LawKit.callS X hx (y := y) hown (mvT hZ w1) (mvT hZ w2) (mvT hZ w3) (mvT hZ w4) hy (backOf (W := W) (hM []) hZ w4 w3 hf hl) (g := mkF m pc Ls (argsL.reverse ++ st)) rfl hml (argsL := argsL) (rest := st) (lenOf hpd hlen) rfl (by show 2 * 0 + _ ≤ _; omega) (hb hby hd) (fun _ _ => ⟨rfl, eT, hcl, hsl⟩)
  dsimp only [Pt.U, Pt.locs, Pt.cells, Pt.slots] at X1 l1 y1 z1 st1 hQ
  subst l1 y1 z1
  exact Go.by (fun t q => st1 t q) (k T1 Lc v X1 hQ)
theorem own_callC (X : Stand p l e R s m args below meth c T locs cells slots) (hx : p.tables.exec = Jvm.exec) (hby : c.code = bs) (hZ : Z.Warmed39 s.vm) {own : String} {idx : Nat} {y : MethodName} {yb : ByteArray} {yml : Nat} {rm : Room} {as : Array Value} {Qc : Option Value → Heap → List Loc → Prop} {a : Addr} (argsL : List Value) (has : (.ref a :: argsL).toArray = as) (hy1 : y.name = "<init>") (hown : s.vm.findClass own = some m.cls) (w1 : (Jvm.Cond.methodLink own idx y).before a0 Z = true) (w2 : (Jvm.Cond.instanceMethod y).before a0 Z = true) (w3 : (Jvm.Cond.initialized y.cls).before a0 Z = true) (w4 : (Jvm.Cond.code y yb yml none).before a0 Z = true) (hy : y.cls ≠ "java/lang/invoke/MethodHandle" ∧ y.cls ≠ "java/lang/invoke/VarHandle") (hd : decode bs pc = .ok (.invokespecial idx, 3)) (hM : Met1 l Z y yb yml none rm as h Qc) (eT : T.heap = h) {ps : List FieldType} {pr : Option FieldType} (hpd : parseMethodDescriptor y.desc = some ⟨ps, pr⟩) (hlen : argsL.length = ps.length) (hml : Ls.size = c.maxLocals) (hf : rm.frames + 1 ≤ R.frames) (W : Nat) (hW : (st.map fun v => v.category).sum = W) (hl : W + (yml + 11) + rm.locals ≤ R.locals) (hcl : cells + rm.cells ≤ R.cells) (hsl : slots + rm.slots ≤ R.slots) (pc' : Nat) (hp : pc + 3 = pc') (k : ∀ (T' : State) (L : List Loc) (v : Option Value), Stand p l e R s m args below meth c T' (locs ++ L) (cells + rm.cells) (slots + rm.slots) → Qc v T'.heap L → Go p e below G T' (mkF m pc' Ls (v.toList ++ st))) : Go p e below G T (mkF m pc Ls (argsL.reverse ++ .ref a :: st)) := by
  subst has
  subst hp
  obtain ⟨v, vm₁, ⟨T1, L1, k1, n1⟩, -, X1, ⟨Lc, hQ, l1, y1, z1⟩, st1⟩ := X.specialBack hx (y := y) hy1 hown (mvT hZ w1) (mvT hZ w2) (mvT hZ w4) hy (backOf (W := W) (hM []) hZ w4 w3 hf hl) (g := mkF m pc Ls (argsL.reverse ++ .ref a :: st)) rfl hml (Steps.refl _) (a := a) (argsL := argsL) (rest := st) (lenOf hpd hlen) rfl (by show 2 * 0 + _ ≤ _; omega) (hb hby hd) (fun _ _ => ⟨rfl, eT, hcl, hsl⟩)
  dsimp only [Pt.U, Pt.locs, Pt.cells, Pt.slots] at X1 l1 y1 z1 st1 hQ
  subst l1 y1 z1
  exact Go.by (fun t q => st1.trans q) (k T1 Lc v X1 hQ)
theorem own_callV (X : Stand p l e R s m args below meth c T locs cells slots) (hx : p.tables.exec = Jvm.exec) (hby : c.code = bs) (hZ : Z.Warmed39 s.vm) {own : String} {idx : Nat} {y : MethodName} {yb : ByteArray} {yml : Nat} {yrt : Option FieldType} {rm : Room} {as : Array Value} {Qc : Option Value → Heap → List Loc → Prop} {a : Addr} {C : String} (argsL : List Value) (has : (.ref a :: argsL).toArray = as) (hown : s.vm.findClass own = some m.cls) (w1 : (Jvm.Cond.methodLink own idx y).before a0 Z = true) (w5 : (Jvm.Cond.declares y).before a0 Z = true) (w6 : (Jvm.Cond.selects C y y).before a0 Z = true) (w2 : (Jvm.Cond.instanceMethod y).before a0 Z = true) (w3 : (Jvm.Cond.initialized y.cls).before a0 Z = true) (w4 : (Jvm.Cond.code y yb yml yrt).before a0 Z = true) (E : Exa Z h a C) (hy : y.cls ≠ "java/lang/invoke/MethodHandle" ∧ y.cls ≠ "java/lang/invoke/VarHandle") (hd : decode bs pc = .ok (.invokevirtual idx, 3)) (hM : Met1 l Z y yb yml yrt rm as h Qc) (eT : T.heap = h) {ps : List FieldType} {pr : Option FieldType} (hpd : parseMethodDescriptor y.desc = some ⟨ps, pr⟩) (hlen : argsL.length = ps.length) (hml : Ls.size = c.maxLocals) (hf : rm.frames + 1 ≤ R.frames) (W : Nat) (hW : (st.map fun v => v.category).sum = W) (hl : W + (yml + 11) + rm.locals ≤ R.locals) (hcl : cells + rm.cells ≤ R.cells) (hsl : slots + rm.slots ≤ R.slots) (pc' : Nat) (hp : pc + 3 = pc') (k : ∀ (T' : State) (L : List Loc) (v : Option Value), Stand p l e R s m args below meth c T' (locs ++ L) (cells + rm.cells) (slots + rm.slots) → Qc v T'.heap L → Go p e below G T' (mkF m pc' Ls (v.toList ++ st))) : Go p e below G T (mkF m pc Ls (argsL.reverse ++ .ref a :: st)) := by
  subst has
  obtain ⟨cq, kq, qa, qb, qc⟩ := isOf hZ eT E
  subst hp
  obtain ⟨v, vm₁, ⟨T1, L1, k1, n1⟩, -, X1, ⟨Lc, hQ, l1, y1, z1⟩, st1⟩ := X.virtualBack hx (y := y) (z := y) hown (mvT hZ w1) (mvT hZ w5) (notFace_of_selects (args := #[]) (mvT hZ w6)) (mvT hZ w6) (mvT hZ w2) hy (backOf (W := W) (hM []) hZ w4 w3 hf hl) qa qc (g := mkF m pc Ls (argsL.reverse ++ .ref a :: st)) rfl hml (Steps.refl _) (argsL := argsL) (rest := st) (lenOf hpd hlen) rfl (by show 2 * 0 + _ ≤ _; omega) (hb hby hd) (fun _ _ => ⟨rfl, eT, hcl, hsl⟩)
  dsimp only [Pt.U, Pt.locs, Pt.cells, Pt.slots] at X1 l1 y1 z1 st1 hQ
  subst l1 y1 z1
  exact Go.by (fun t q => st1.trans q) (k T1 Lc v X1 hQ)
theorem own_getF (X : Stand p l e R s m args below meth c T locs cells slots) (hx : p.tables.exec = Jvm.exec) (hby : c.code = bs) (hZ : Z.Warmed39 s.vm) {own R0 O n d host : String} {idx : Nat} {a : Addr} {v : Value} (hown : s.vm.findClass own = some m.cls) (w : (Jvm.Cond.fieldLink own idx R0 n d).before a0 Z = true ∨ (Jvm.Cond.fieldLinkNest own idx R0 n d host).before a0 Z = true) (via : Via Z R0 O n d) (eT : T.heap = h) (F : Fld Z h a O n d v) (hd : decode bs pc = .ok (.getfield idx, 3)) (pc' : Nat) (hp : pc + 3 = pc') (k : ∀ T', Stand p l e R s m args below meth c T' locs cells slots → T'.heap = h → Go p e below G T' (mkF m pc' Ls (v :: st))) : Go p e below G T (mkF m pc Ls (.ref a :: st)) := by
  subst hp
  obtain ⟨T1, X1, e1, st1⟩ := getF X hx hZ hown w via eT F (g := mkF m pc Ls (.ref a :: st)) rfl rfl (hb hby hd)
  exact Go.by (fun t q => st1 t q) (k T1 X1 e1)
theorem own_putF (X : Stand p l e R s m args below meth c T locs cells slots) (hx : p.tables.exec = Jvm.exec) (hby : c.code = bs) (hZ : Z.Warmed39 s.vm) {own R0 O n d host C : String} {idx kk : Nat} {a : Addr} {v old : Value} {ty : FieldType} (hown : s.vm.findClass own = some m.cls) (w : (Jvm.Cond.fieldLink own idx R0 n d).before a0 Z = true ∨ (Jvm.Cond.fieldLinkNest own idx R0 n d host).before a0 Z = true) (via : Via Z R0 O n d) (eT : T.heap = h) (F : Fld Z h a O n d old) (E : Exa Z h a C) (lw : (Jvm.Cond.lays C O n d).before a0 Z = true ∨ ((Jvm.Cond.laysFinal C O n d).before a0 Z = true ∧ own = O ∧ meth.name = "<init>")) (wi : (Jvm.Cond.instantiable C kk).before a0 Z = true) (hty : parseFieldDescriptor d = some ty) (hn : narrow ty v = v) (hf : fits ty v = true) (hd : decode bs pc = .ok (.putfield idx, 3)) (pc' : Nat) (hp : pc + 3 = pc') (k : ∀ T' h', Stand p l e R s m args below meth c T' (locs ++ [⟨a, Jvm.RoadKit.slotOf Z O n d⟩]) cells slots → T'.heap = h' → Wr h h' a (Jvm.RoadKit.slotOf Z O n d) v → Go p e below G T' (mkF m pc' Ls st)) : Go p e below G T (mkF m pc Ls (v :: .ref a :: st)) := by
  subst hp
  obtain ⟨T1, h1, X1, e1, W1, st1⟩ := putF X hx hZ hown w via eT F E lw wi hty hn hf (g := mkF m pc Ls (v :: .ref a :: st)) rfl rfl (hb hby hd)
  exact Go.by (fun t q => st1 t q) (k T1 h1 X1 e1 W1)
theorem own_new (X : Stand p l e R s m args below meth c T locs cells slots) (hx : p.tables.exec = Jvm.exec) (hby : c.code = bs) (hZ : Z.Warmed39 s.vm) {own C : String} {idx n : Nat} (hown : s.vm.findClass own = some m.cls) (w : (Jvm.Cond.classLink own idx C).before a0 Z = true) (wi : (Jvm.Cond.instantiable C n).before a0 Z = true) (wz : (Jvm.Cond.initialized C).before a0 Z = true) (eT : T.heap = h) (hd : decode bs pc = .ok (.new idx, 3)) (hcl : cells + 1 ≤ R.cells) (hsl : slots + n ≤ R.slots) (pc' : Nat) (hp : pc + 3 = pc') (k : ∀ T' h' (b : Addr), b = h.size → Stand p l e R s m args below meth c T' locs (cells + 1) (slots + n) → T'.heap = h' → Ext h h' → Exa Z h' b C → (∀ {O nm d : String} {ty : FieldType}, Laid Z a0 C O nm d → parseFieldDescriptor d = some ty → Fld Z h' b O nm d (defaultValue ty)) → Go p e below G T' (mkF m pc' Ls (.ref b :: st))) : Go p e below G T (mkF m pc Ls st) := by
  subst hp
  obtain ⟨T1, h1, X1, e1, E1, A1, D1, -, st1⟩ := newO X hx hZ hown w wi wz eT (g := mkF m pc Ls st) rfl (hb hby hd) hcl hsl
  exact Go.by (fun t q => st1 t q) (k T1 h1 _ rfl X1 e1 E1 A1 D1)
theorem own_initO (X : Stand p l e R s m args below meth c T locs cells slots) (hx : p.tables.exec = Jvm.exec) (hby : c.code = bs) (hZ : Z.Warmed39 s.vm) {own : String} {idx : Nat} {a : Addr} (hown : s.vm.findClass own = some m.cls) (w1 : (Jvm.Cond.methodLink own idx Lib.objectInit).before a0 Z = true) (w2 : (Jvm.Cond.instanceMethod Lib.objectInit).before a0 Z = true) (w3 : (Jvm.Cond.code Lib.objectInit ⟨#[0xb1]⟩ 1 none).before a0 Z = true) (eT : T.heap = h) (hml : Ls.size = c.maxLocals) (hd : decode bs pc = .ok (.invokespecial idx, 3)) (hf : 1 ≤ R.frames) (W : Nat) (hW : (st.map fun v => v.category).sum = W) (hl : W + 12 ≤ R.locals) (pc' : Nat) (hp : pc + 3 = pc') (k : ∀ T', Stand p l e R s m args below meth c T' locs cells slots → T'.heap = h → Go p e below G T' (mkF m pc' Ls st)) : Go p e below G T (mkF m pc Ls (.ref a :: st)) := by
  subst hp
  obtain ⟨T1, X1, e1, st1⟩ := initO X hx hZ hown w1 w2 w3 eT (g := mkF m pc Ls (.ref a :: st)) rfl hml rfl (hb hby hd) hf (W := W) (by show 2 * 0 + _ ≤ _; omega) hl
  exact Go.by (fun t q => st1 t q) (k T1 X1 e1)
theorem own_putFN (X : Stand p l e R s m args below meth c T locs cells slots) (hx : p.tables.exec = Jvm.exec) (hby : c.code = bs) (hZ : Z.Warmed39 s.vm) {own R0 O n d C : String} {idx kk : Nat} {a : Addr} {v v' old : Value} {ty : FieldType} (hown : s.vm.findClass own = some m.cls) (w : (Jvm.Cond.fieldLink own idx R0 n d).before a0 Z = true) (via : Via Z R0 O n d) (eT : T.heap = h) (F : Fld Z h a O n d old) (E : Exa Z h a C) (lw : (Jvm.Cond.lays C O n d).before a0 Z = true ∨ ((Jvm.Cond.laysFinal C O n d).before a0 Z = true ∧ own = O ∧ meth.name = "<init>")) (wi : (Jvm.Cond.instantiable C kk).before a0 Z = true) (hty : parseFieldDescriptor d = some ty) (hn : narrow ty v = v') (hf : fits ty v' = true) (hd : decode bs pc = .ok (.putfield idx, 3)) (pc' : Nat) (hp : pc + 3 = pc') (k : ∀ T' h', Stand p l e R s m args below meth c T' (locs ++ [⟨a, Jvm.RoadKit.slotOf Z O n d⟩]) cells slots → T'.heap = h' → Wr h h' a (Jvm.RoadKit.slotOf Z O n d) v' → Go p e below G T' (mkF m pc' Ls st)) : Go p e below G T (mkF m pc Ls (v :: .ref a :: st)) := by
  subst hp
  obtain ⟨T1, h1, X1, e1, W1, st1⟩ := putFN X hx hZ hown w via eT F E lw wi hty hn hf (g := mkF m pc Ls (v :: .ref a :: st)) rfl rfl (hb hby hd)
  exact Go.by (fun t q => st1 t q) (k T1 h1 X1 e1 W1)
theorem own_callP (X : Stand p l e R s m args below meth c T locs cells slots) (hx : p.tables.exec = Jvm.exec) (hby : c.code = bs) (hZ : Z.Warmed39 s.vm) {own : String} {idx : Nat} {y : MethodName} {yb : ByteArray} {yml : Nat} {yrt : Option FieldType} {rm : Room} {as : Array Value} {Qc : Option Value → Heap → List Loc → Prop} {a : Addr} {C : String} (argsL : List Value) (has : (.ref a :: argsL).toArray = as) (hown : s.vm.findClass own = some m.cls) (w1 : (Jvm.Cond.methodLink own idx y).before a0 Z = true) (w2 : (Jvm.Cond.instanceMethod y).before a0 Z = true) {kk : Nat} (w6 : (Jvm.Cond.instantiable y.cls kk).before a0 Z = true) (w7 : (Jvm.Cond.privateMethod y).before a0 Z = true) (w3 : (Jvm.Cond.initialized y.cls).before a0 Z = true) (w4 : (Jvm.Cond.code y yb yml yrt).before a0 Z = true) (E : Exa Z h a C) (hy : y.cls ≠ "java/lang/invoke/MethodHandle" ∧ y.cls ≠ "java/lang/invoke/VarHandle") (hd : decode bs pc = .ok (.invokevirtual idx, 3)) (hM : Met1 l Z y yb yml yrt rm as h Qc) (eT : T.heap = h) {ps : List FieldType} {pr : Option FieldType} (hpd : parseMethodDescriptor y.desc = some ⟨ps, pr⟩) (hlen : argsL.length = ps.length) (hml : Ls.size = c.maxLocals) (hf : rm.frames + 1 ≤ R.frames) (W : Nat) (hW : (st.map fun v => v.category).sum = W) (hl : W + (yml + 11) + rm.locals ≤ R.locals) (hcl : cells + rm.cells ≤ R.cells) (hsl : slots + rm.slots ≤ R.slots) (pc' : Nat) (hp : pc + 3 = pc') (k : ∀ (T' : State) (L : List Loc) (v : Option Value), Stand p l e R s m args below meth c T' (locs ++ L) (cells + rm.cells) (slots + rm.slots) → Qc v T'.heap L → Go p e below G T' (mkF m pc' Ls (v.toList ++ st))) : Go p e below G T (mkF m pc Ls (argsL.reverse ++ .ref a :: st)) := by
  subst has
  obtain ⟨cq, q1, q2⟩ := E.cell
  have pv := Cond.privateMethod_at (mvP hZ w7 (args := #[]))
  have sel : (Jvm.Cond.selects y.cls y y).before args s = true := by
    obtain ⟨c1, k1, r1, r2, -, r3, -, -⟩ := Cond.instantiable_spec (mvT (args := args) hZ w6)
    exact selects_self_of_private r1 r2 (Bool.or_eq_false_iff.mp r3).1 pv (mvT hZ w2) hy
  subst hp
  obtain ⟨v, vm₁, ⟨T1, L1, k1, n1⟩, -, X1, ⟨Lc, hQ, l1, y1, z1⟩, st1⟩ := X.privateBack hx (y := y) hown (mvT hZ w1) (mvT hZ w2) sel pv (mvT hZ w4) hy (backOf (W := W) (hM []) hZ w4 w3 hf hl) (g := mkF m pc Ls (argsL.reverse ++ .ref a :: st)) rfl hml (Steps.refl _) (a := a) (by rw [eT]; exact q1) q2 (argsL := argsL) (rest := st) (lenOf hpd hlen) rfl (by show 2 * 0 + _ ≤ _; omega) (hb hby hd) (fun _ _ => ⟨rfl, eT, hcl, hsl⟩)
  dsimp only [Pt.U, Pt.locs, Pt.cells, Pt.slots] at X1 l1 y1 z1 st1 hQ
  subst l1 y1 z1
  exact Go.by (fun t q => st1.trans q) (k T1 Lc v X1 hQ)
theorem own_instY (X : Stand p l e R s m args below meth c T locs cells slots) (hx : p.tables.exec = Jvm.exec) (hby : c.code = bs) (hZ : Z.Warmed39 s.vm) {own K : String} {idx : Nat} {a : Addr} (hown : s.vm.findClass own = some m.cls) (w : (Jvm.Cond.classLink own idx K).before a0 Z = true) (eT : T.heap = h) (F : Ins Z h a K true) (hd : decode bs pc = .ok (.instanceof idx, 3)) (pc' : Nat) (hp : pc + 3 = pc') (k : ∀ T', Stand p l e R s m args below meth c T' locs cells slots → T'.heap = h → Go p e below G T' (mkF m pc' Ls (.int 1 :: st))) : Go p e below G T (mkF m pc Ls (.ref a :: st)) := by
  subst hp
  obtain ⟨T1, X1, e1, st1⟩ := instY X hx hZ hown w eT F (g := mkF m pc Ls (.ref a :: st)) rfl rfl (hb hby hd)
  exact Go.by (fun t q => st1 t q) (k T1 X1 e1)
theorem own_instNo (X : Stand p l e R s m args below meth c T locs cells slots) (hx : p.tables.exec = Jvm.exec) (hby : c.code = bs) (hZ : Z.Warmed39 s.vm) {own K : String} {idx : Nat} {a : Addr} (hown : s.vm.findClass own = some m.cls) (w : (Jvm.Cond.classLink own idx K).before a0 Z = true) (eT : T.heap = h) {C : String} (E : Exa Z h a C) (F : ∃ c t, Z.vm.findClass C = some c ∧ Z.vm.findClass K = some t ∧ Z.vm.assignable c t = false) (hd : decode bs pc = .ok (.instanceof idx, 3)) (pc' : Nat) (hp : pc + 3 = pc') (k : ∀ T', Stand p l e R s m args below meth c T' locs cells slots → T'.heap = h → Go p e below G T' (mkF m pc' Ls (.int 0 :: st))) : Go p e below G T (mkF m pc Ls (.ref a :: st)) := by
  subst hp
  obtain ⟨T1, X1, e1, st1⟩ := instNo X hx hZ hown w eT E F (g := mkF m pc Ls (.ref a :: st)) rfl rfl (hb hby hd)
  exact Go.by (fun t q => st1 t q) (k T1 X1 e1)
theorem own_castY (X : Stand p l e R s m args below meth c T locs cells slots) (hx : p.tables.exec = Jvm.exec) (hby : c.code = bs) (hZ : Z.Warmed39 s.vm) {own K : String} {idx : Nat} {a : Addr} (hown : s.vm.findClass own = some m.cls) (w : (Jvm.Cond.classLink own idx K).before a0 Z = true) (eT : T.heap = h) (F : Ins Z h a K true) (hd : decode bs pc = .ok (.checkcast idx, 3)) (pc' : Nat) (hp : pc + 3 = pc') (k : ∀ T', Stand p l e R s m args below meth c T' locs cells slots → T'.heap = h → Go p e below G T' (mkF m pc' Ls (.ref a :: st))) : Go p e below G T (mkF m pc Ls (.ref a :: st)) := by
  subst hp
  obtain ⟨T1, X1, e1, st1⟩ := castY X hx hZ hown w eT F (g := mkF m pc Ls (.ref a :: st)) rfl rfl (hb hby hd)
  exact Go.by (fun t q => st1 t q) (k T1 X1 e1)
theorem own_instNull (X : Stand p l e R s m args below meth c T locs cells slots) (hx : p.tables.exec = Jvm.exec) (hby : c.code = bs) {idx : Nat} (hd : decode bs pc = .ok (.instanceof idx, 3)) (pc' : Nat) (hp : pc + 3 = pc') (k : Go p e below G T (mkF m pc' Ls (.int 0 :: st))) : Go p e below G T (mkF m pc Ls (.null :: st)) := by
  subst hp
  exact Go.by (fun t q => X.instanceofNull hx (g := mkF m pc Ls (.null :: st)) rfl rfl (hb hby hd) t q) k
theorem own_castNull (X : Stand p l e R s m args below meth c T locs cells slots) (hx : p.tables.exec = Jvm.exec) (hby : c.code = bs) {idx : Nat} (hd : decode bs pc = .ok (.checkcast idx, 3)) (pc' : Nat) (hp : pc + 3 = pc') (k : Go p e below G T (mkF m pc' Ls (.null :: st))) : Go p e below G T (mkF m pc Ls (.null :: st)) := by
  subst hp
  exact Go.by (fun t q => X.checkcastNull hx (g := mkF m pc Ls (.null :: st)) rfl rfl (hb hby hd) t q) k
theorem own_acmp (X : Stand p l e R s m args below meth c T locs cells slots) (hx : p.tables.exec = Jvm.exec) (hby : c.code = bs) {cd : ACond} {o : Int} {x y : Value} (same : Bool) (hd : decode bs pc = .ok (.if_acmp cd o, 3)) (h1 : x.isRef = true) (h2 : y.isRef = true) (hq : decide (x = y) = same) (ho : 0 ≤ (pc : Int) + o) (pc' : Nat) (hp : pc' = if acV cd same = true then ((pc : Int) + o).toNat else pc + 3) (k : Go p e below G T (mkF m pc' Ls st)) : Go p e below G T (mkF m pc Ls (y :: x :: st)) :=
  Go.by (fun t q => Jvm.RoadKit.acmp (g := mkF m pc Ls (y :: x :: st)) X hx rfl h1 h2 (pc0 := pc) (pc' := pc') (same := same) rfl (hb hby hd) rfl hq ho hp q) k
theorem own_getS (X : Stand p l e R s m args below meth c T locs cells slots) (hx : p.tables.exec = Jvm.exec) (hby : c.code = bs) (hZ : Z.Warmed39 s.vm) {own R0 O n d host : String} {idx : Nat} {v : Value} (hown : s.vm.findClass own = some m.cls) (w : (Jvm.Cond.fieldLink own idx R0 n d).before a0 Z = true ∨ (Jvm.Cond.fieldLinkNest own idx R0 n d host).before a0 Z = true) (via : Via Z R0 O n d) (eT : T.heap = h) (F : Sta Z h O n d v) (hd : decode bs pc = .ok (.getstatic idx, 3)) (pc' : Nat) (hp : pc + 3 = pc') (k : ∀ T', Stand p l e R s m args below meth c T' locs cells slots → T'.heap = h → Go p e below G T' (mkF m pc' Ls (v :: st))) : Go p e below G T (mkF m pc Ls st) := by
  subst hp
  obtain ⟨T1, X1, e1, st1⟩ := getS2 X hx hZ hown w via eT F (g := mkF m pc Ls st) rfl (hb hby hd)
  exact Go.by (fun t q => st1 t q) (k T1 X1 e1)
/-- an array of n places that hold what f says -/
def Afn (Z : State) (h : Heap) (a : Addr) (ty : FieldType) (n : Nat) (f : Nat → Value) : Prop := ∃ cl : Cell, Arr Z h a cl ty ∧ cl.slots.size = n ∧ ∀ i, i < n → cl.slots[i]? = some (f i) ∧ fits ty (f i) = true
def upd (f : Nat → Value) (i : Nat) (v : Value) : Nat → Value := fun j => if j = i then v else f j
theorem Afn.lt {a : Addr} {ty : FieldType} {n : Nat} {f : Nat → Value} (F : Afn Z h a ty n f) : a < h.size := by obtain ⟨cl, A, -⟩ := F; exact A.lt
theorem Afn.ext {h' : Heap} {a : Addr} {ty : FieldType} {n : Nat} {f : Nat → Value} (F : Afn Z h a ty n f) (E : Ext h h') : Afn Z h' a ty n f := by obtain ⟨cl, A, r⟩ := F; exact ⟨cl, A.ext E, r⟩
theorem Afn.other {h' : Heap} {a b : Addr} {sl : Nat} {v : Value} {ty : FieldType} {n : Nat} {f : Nat → Value} (F : Afn Z h b ty n f) (W : Wr h h' a sl v) (q : b ≠ a) : Afn Z h' b ty n f := by obtain ⟨cl, A, r⟩ := F; exact ⟨cl, A.other W q, r⟩
theorem Afn.keep {h' : Heap} {a : Addr} {ws : List Addr} {ty : FieldType} {n : Nat} {f : Nat → Value} (F : Afn Z h a ty n f) (K : Keep h h' ws) (q : a ∉ ws) : Afn Z h' a ty n f := by obtain ⟨cl, A, r⟩ := F; exact ⟨cl, ⟨K.2.1 a cl A.1 q, A.2⟩, r⟩
theorem Afn.to {a : Addr} {ty : FieldType} {n : Nat} {f f' : Nat → Value} (F : Afn Z h a ty n f) (q : ∀ i, i < n → f i = f' i) : Afn Z h a ty n f' := by obtain ⟨cl, A, S, H⟩ := F; exact ⟨cl, A, S, fun i hi => q i hi ▸ H i hi⟩
theorem Afn.new {a : Addr} {k : ClassId} {ty : FieldType} {z : Int32} {n : Nat} (A : Arr Z h a (newA k ty z) ty) (q : z.toNatClampNeg = n) : Afn Z h a ty n (fun _ => defaultValue ty) := by
  refine ⟨_, A, by rw [sz_new]; exact q, fun i hi => ⟨?_, by cases ty <;> rfl⟩⟩
  subst q
  show (Array.replicate z.toNatClampNeg (defaultValue ty))[i]? = _
  rw [Array.getElem?_replicate, if_pos hi]
theorem Afn.set {h' : Heap} {a : Addr} {ty : FieldType} {n i : Nat} {v : Value} {f : Nat → Value} (F : Afn Z h a ty n f) (W : Wr h h' a i v) (hi : i < n) (hv : fits ty v = true) : Afn Z h' a ty n (upd f i v) := by
  obtain ⟨cl, A, S, H⟩ := F
  refine ⟨cl.setSlot i v, A.same W, by rw [sz_set]; exact S, fun j hj => ?_⟩
  unfold upd
  by_cases q : j = i
  · subst q
    rw [if_pos rfl]
    refine ⟨?_, hv⟩
    show (cl.slots.setIfInBounds j v)[j]? = some v
    rw [Array.getElem?_setIfInBounds_self_of_lt (by rw [S]; exact hj)]
  · rw [if_neg q]
    refine ⟨?_, (H j hj).2⟩
    rw [← (H j hj).1]
    exact Array.getElem?_setIfInBounds_ne (Ne.symm q)
theorem own_in {j : Int32} {n : Nat} (h0 : 0 ≤ j.toInt) (h1 : j.toInt < n) : ¬ (j < 0 ∨ n ≤ j.toNatClampNeg) := by
  simp only [Int32.lt_iff_toInt_lt, Int32.toNatClampNeg, Int32.reduceToInt]; omega
/-- an array of ints (bytes, chars, shorts): n places that hold what g says -/
def Afi (Z : State) (h : Heap) (a : Addr) (ty : FieldType) (n : Nat) (g : Nat → Int32) : Prop := Afn Z h a ty n (fun i => .int (g i))
def updI (g : Nat → Int32) (i : Nat) (v : Int32) : Nat → Int32 := fun j => if j = i then v else g j
theorem Afi.lt {a : Addr} {ty : FieldType} {n : Nat} {g : Nat → Int32} (F : Afi Z h a ty n g) : a < h.size := Afn.lt F
theorem Afi.ext {h' : Heap} {a : Addr} {ty : FieldType} {n : Nat} {g : Nat → Int32} (F : Afi Z h a ty n g) (E : Ext h h') : Afi Z h' a ty n g := Afn.ext F E
theorem Afi.other {h' : Heap} {a b : Addr} {sl : Nat} {v : Value} {ty : FieldType} {n : Nat} {g : Nat → Int32} (F : Afi Z h b ty n g) (W : Wr h h' a sl v) (q : b ≠ a) : Afi Z h' b ty n g := Afn.other F W q
theorem Afi.keep {h' : Heap} {a : Addr} {ws : List Addr} {ty : FieldType} {n : Nat} {g : Nat → Int32} (F : Afi Z h a ty n g) (K : Keep h h' ws) (q : a ∉ ws) : Afi Z h' a ty n g := Afn.keep F K q
theorem Afi.to {a : Addr} {ty : FieldType} {n : Nat} {g g' : Nat → Int32} (F : Afi Z h a ty n g) (q : ∀ i, i < n → g i = g' i) : Afi Z h a ty n g' := Afn.to F fun i hi => congrArg Value.int (q i hi)
theorem Afi.set {h' : Heap} {a : Addr} {ty : FieldType} {n i : Nat} {v : Int32} {g : Nat → Int32} (F : Afi Z h a ty n g) (W : Wr h h' a i (.int v)) (hi : i < n) (hv : fits ty (.int v) = true) : Afi Z h' a ty n (updI g i v) :=
  (Afn.set F W hi hv).to fun j _ => by
    unfold upd updI
    by_cases q : j = i
    · rw [if_pos q, if_pos q]
    · rw [if_neg q, if_neg q]
theorem own_iaload (X : Stand p l e R s m args below meth c T locs cells slots) (hx : p.tables.exec = Jvm.exec) (hby : c.code = bs) (hZ : Z.Warmed39 s.vm) {a : Addr} {j : Int32} {n : Nat} {g : Nat → Int32} (v : Int32) (eT : T.heap = h) (F : Afi Z h a .int n g) (hj : ¬ (j < 0 ∨ n ≤ j.toNatClampNeg)) (hv : g j.toNatClampNeg = v) (hd : decode bs pc = .ok (.iaload, 1)) (pc' : Nat) (hp : pc + 1 = pc') (k : Go p e below G T (mkF m pc' Ls (.int v :: st))) : Go p e below G T (mkF m pc Ls (.int j :: .ref a :: st)) := by
  subst hp
  subst hv
  obtain ⟨cl, A, S, H⟩ := F
  subst S
  exact Go.by (fun t q => X.iaload hx (j := j) (v := .int (g j.toNatClampNeg)) (by rw [eT]; exact A.1) (State.isArrayOf_alike hZ.alike A.2.1) A.2.2 hj (H _ (Nat.lt_of_not_le fun q => hj (Or.inr q))).1 (g := mkF m pc Ls (.int j :: .ref a :: st)) rfl rfl (hb hby hd) t q) k
theorem own_baload (X : Stand p l e R s m args below meth c T locs cells slots) (hx : p.tables.exec = Jvm.exec) (hby : c.code = bs) (hZ : Z.Warmed39 s.vm) {a : Addr} {j : Int32} {n : Nat} {g : Nat → Int32} (v : Int32) (eT : T.heap = h) (F : Afi Z h a .byte n g) (hj : ¬ (j < 0 ∨ n ≤ j.toNatClampNeg)) (hv : g j.toNatClampNeg = v) (hd : decode bs pc = .ok (.baload, 1)) (pc' : Nat) (hp : pc + 1 = pc') (k : Go p e below G T (mkF m pc' Ls (.int v :: st))) : Go p e below G T (mkF m pc Ls (.int j :: .ref a :: st)) := by
  subst hp
  subst hv
  obtain ⟨cl, A, S, H⟩ := F
  subst S
  exact Go.by (fun t q => X.baloadBytes hx (j := j) (v := .int (g j.toNatClampNeg)) (by rw [eT]; exact A.1) (State.isArrayOf_alike hZ.alike A.2.1) A.2.2 hj (H _ (Nat.lt_of_not_le fun q => hj (Or.inr q))).1 (g := mkF m pc Ls (.int j :: .ref a :: st)) rfl rfl (hb hby hd) t q) k
theorem own_caload (X : Stand p l e R s m args below meth c T locs cells slots) (hx : p.tables.exec = Jvm.exec) (hby : c.code = bs) (hZ : Z.Warmed39 s.vm) {a : Addr} {j : Int32} {n : Nat} {g : Nat → Int32} (v : Int32) (eT : T.heap = h) (F : Afi Z h a .char n g) (hj : ¬ (j < 0 ∨ n ≤ j.toNatClampNeg)) (hv : g j.toNatClampNeg = v) (hd : decode bs pc = .ok (.caload, 1)) (pc' : Nat) (hp : pc + 1 = pc') (k : Go p e below G T (mkF m pc' Ls (.int v :: st))) : Go p e below G T (mkF m pc Ls (.int j :: .ref a :: st)) := by
  subst hp
  subst hv
  obtain ⟨cl, A, S, H⟩ := F
  subst S
  exact Go.by (fun t q => X.caload hx (j := j) (v := .int (g j.toNatClampNeg)) (by rw [eT]; exact A.1) (State.isArrayOf_alike hZ.alike A.2.1) A.2.2 hj (H _ (Nat.lt_of_not_le fun q => hj (Or.inr q))).1 (g := mkF m pc Ls (.int j :: .ref a :: st)) rfl rfl (hb hby hd) t q) k
theorem own_saload (X : Stand p l e R s m args below meth c T locs cells slots) (hx : p.tables.exec = Jvm.exec) (hby : c.code = bs) (hZ : Z.Warmed39 s.vm) {a : Addr} {j : Int32} {n : Nat} {g : Nat → Int32} (v : Int32) (eT : T.heap = h) (F : Afi Z h a .short n g) (hj : ¬ (j < 0 ∨ n ≤ j.toNatClampNeg)) (hv : g j.toNatClampNeg = v) (hd : decode bs pc = .ok (.saload, 1)) (pc' : Nat) (hp : pc + 1 = pc') (k : Go p e below G T (mkF m pc' Ls (.int v :: st))) : Go p e below G T (mkF m pc Ls (.int j :: .ref a :: st)) := by
  subst hp
  subst hv
  obtain ⟨cl, A, S, H⟩ := F
  subst S
  exact Go.by (fun t q => X.saload hx (j := j) (v := .int (g j.toNatClampNeg)) (by rw [eT]; exact A.1) (State.isArrayOf_alike hZ.alike A.2.1) A.2.2 hj (H _ (Nat.lt_of_not_le fun q => hj (Or.inr q))).1 (g := mkF m pc Ls (.int j :: .ref a :: st)) rfl rfl (hb hby hd) t q) k
theorem own_aaload (X : Stand p l e R s m args below meth c T locs cells slots) (hx : p.tables.exec = Jvm.exec) (hby : c.code = bs) (hZ : Z.Warmed39 s.vm) {a : Addr} {j : Int32} {n : Nat} {ty : FieldType} {f : Nat → Value} (v : Value) (eT : T.heap = h) (F : Afn Z h a ty n f) (hty : ty.isReference = true) (hj : ¬ (j < 0 ∨ n ≤ j.toNatClampNeg)) (hv : f j.toNatClampNeg = v) (hd : decode bs pc = .ok (.aaload, 1)) (pc' : Nat) (hp : pc + 1 = pc') (k : Go p e below G T (mkF m pc' Ls (v :: st))) : Go p e below G T (mkF m pc Ls (.int j :: .ref a :: st)) := by
  subst hp
  subst hv
  obtain ⟨cl, A, S, H⟩ := F
  subst S
  exact Go.by (fun t q => X.aaload hx (j := j) (v := f j.toNatClampNeg) (by rw [eT]; exact A.1) (State.isArrayOf_alike hZ.alike A.2.1) hty A.2.2 hj (H _ (Nat.lt_of_not_le fun q => hj (Or.inr q))).1 (g := mkF m pc Ls (.int j :: .ref a :: st)) rfl rfl (hb hby hd) t q) k
theorem own_arraylength (X : Stand p l e R s m args below meth c T locs cells slots) (hx : p.tables.exec = Jvm.exec) (hby : c.code = bs) (hZ : Z.Warmed39 s.vm) {a : Addr} {ty : FieldType} {n : Nat} {f : Nat → Value} (z : Int32) (eT : T.heap = h) (F : Afn Z h a ty n f) (hz : n.toInt32 = z) (hd : decode bs pc = .ok (.arraylength, 1)) (pc' : Nat) (hp : pc + 1 = pc') (k : Go p e below G T (mkF m pc' Ls (.int z :: st))) : Go p e below G T (mkF m pc Ls (.ref a :: st)) := by
  subst hp
  subst hz
  obtain ⟨cl, A, S, H⟩ := F
  subst S
  exact Go.by (fun t q => X.arraylength hx (by rw [eT]; exact A.1) (State.isArrayOf_alike hZ.alike A.2.1) (g := mkF m pc Ls (.ref a :: st)) rfl rfl (hb hby hd) t q) k
theorem own_iastore (X : Stand p l e R s m args below meth c T locs cells slots) (hx : p.tables.exec = Jvm.exec) (hby : c.code = bs) (hZ : Z.Warmed39 s.vm) {a : Addr} {j x : Int32} {n : Nat} {g : Nat → Int32} (eT : T.heap = h) (F : Afi Z h a .int n g) (hj : ¬ (j < 0 ∨ n ≤ j.toNatClampNeg)) (hd : decode bs pc = .ok (.iastore, 1)) (pc' : Nat) (hp : pc + 1 = pc') (k : ∀ T' h', Stand p l e R s m args below meth c T' (locs ++ [⟨a, j.toNatClampNeg⟩]) cells slots → T'.heap = h' → Wr h h' a j.toNatClampNeg (.int x) → Afi Z h' a .int n (updI g j.toNatClampNeg x) → Go p e below G T' (mkF m pc' Ls st)) : Go p e below G T (mkF m pc Ls (.int x :: .int j :: .ref a :: st)) := by
  subst hp
  have F0 := F
  obtain ⟨cl, A, S, H⟩ := F
  obtain ⟨T1, h1, X1, e1, W1, st1⟩ := stI X hx hZ eT A (j := j) (x := x) (by rw [S]; exact hj) (g := mkF m pc Ls (.int x :: .int j :: .ref a :: st)) rfl rfl (hb hby hd)
  exact Go.by (fun t q => st1 t q) (k T1 h1 X1 e1 W1 (F0.set W1 (Nat.lt_of_not_le fun q => hj (Or.inr q)) rfl))
theorem own_bastore (X : Stand p l e R s m args below meth c T locs cells slots) (hx : p.tables.exec = Jvm.exec) (hby : c.code = bs) (hZ : Z.Warmed39 s.vm) {a : Addr} {j x : Int32} {n : Nat} {g : Nat → Int32} (eT : T.heap = h) (F : Afi Z h a .byte n g) (hj : ¬ (j < 0 ∨ n ≤ j.toNatClampNeg)) (hd : decode bs pc = .ok (.bastore, 1)) (pc' : Nat) (hp : pc + 1 = pc') (k : ∀ T' h', Stand p l e R s m args below meth c T' (locs ++ [⟨a, j.toNatClampNeg⟩]) cells slots → T'.heap = h' → Wr h h' a j.toNatClampNeg (.int (nar .byte x)) → Afi Z h' a .byte n (updI g j.toNatClampNeg (nar .byte x)) → Go p e below G T' (mkF m pc' Ls st)) : Go p e below G T (mkF m pc Ls (.int x :: .int j :: .ref a :: st)) := by
  subst hp
  have F0 := F
  obtain ⟨cl, A, S, H⟩ := F
  obtain ⟨T1, h1, X1, e1, W1, st1⟩ := stB X hx hZ eT A (j := j) (x := x) (by rw [S]; exact hj) (g := mkF m pc Ls (.int x :: .int j :: .ref a :: st)) rfl rfl (hb hby hd)
  exact Go.by (fun t q => st1 t q) (k T1 h1 X1 e1 W1 (F0.set W1 (Nat.lt_of_not_le fun q => hj (Or.inr q)) (fits_nar_byte x)))
theorem own_castore (X : Stand p l e R s m args below meth c T locs cells slots) (hx : p.tables.exec = Jvm.exec) (hby : c.code = bs) (hZ : Z.Warmed39 s.vm) {a : Addr} {j x : Int32} {n : Nat} {g : Nat → Int32} (eT : T.heap = h) (F : Afi Z h a .char n g) (hj : ¬ (j < 0 ∨ n ≤ j.toNatClampNeg)) (hd : decode bs pc = .ok (.castore, 1)) (pc' : Nat) (hp : pc + 1 = pc') (k : ∀ T' h', Stand p l e R s m args below meth c T' (locs ++ [⟨a, j.toNatClampNeg⟩]) cells slots → T'.heap = h' → Wr h h' a j.toNatClampNeg (.int (nar .char x)) → Afi Z h' a .char n (updI g j.toNatClampNeg (nar .char x)) → Go p e below G T' (mkF m pc' Ls st)) : Go p e below G T (mkF m pc Ls (.int x :: .int j :: .ref a :: st)) := by
  subst hp
  have F0 := F
  obtain ⟨cl, A, S, H⟩ := F
  obtain ⟨T1, h1, X1, e1, W1, st1⟩ := stC X hx hZ eT A (j := j) (x := x) (by rw [S]; exact hj) (g := mkF m pc Ls (.int x :: .int j :: .ref a :: st)) rfl rfl (hb hby hd)
  exact Go.by (fun t q => st1 t q) (k T1 h1 X1 e1 W1 (F0.set W1 (Nat.lt_of_not_le fun q => hj (Or.inr q)) (fits_nar_char x)))
theorem own_sastore (X : Stand p l e R s m args below meth c T locs cells slots) (hx : p.tables.exec = Jvm.exec) (hby : c.code = bs) (hZ : Z.Warmed39 s.vm) {a : Addr} {j x : Int32} {n : Nat} {g : Nat → Int32} (eT : T.heap = h) (F : Afi Z h a .short n g) (hj : ¬ (j < 0 ∨ n ≤ j.toNatClampNeg)) (hd : decode bs pc = .ok (.sastore, 1)) (pc' : Nat) (hp : pc + 1 = pc') (k : ∀ T' h', Stand p l e R s m args below meth c T' (locs ++ [⟨a, j.toNatClampNeg⟩]) cells slots → T'.heap = h' → Wr h h' a j.toNatClampNeg (.int (nar .short x)) → Afi Z h' a .short n (updI g j.toNatClampNeg (nar .short x)) → Go p e below G T' (mkF m pc' Ls st)) : Go p e below G T (mkF m pc Ls (.int x :: .int j :: .ref a :: st)) := by
  subst hp
  have F0 := F
  obtain ⟨cl, A, S, H⟩ := F
  obtain ⟨T1, h1, X1, e1, W1, st1⟩ := stS X hx hZ eT A (j := j) (x := x) (by rw [S]; exact hj) (g := mkF m pc Ls (.int x :: .int j :: .ref a :: st)) rfl rfl (hb hby hd)
  exact Go.by (fun t q => st1 t q) (k T1 h1 X1 e1 W1 (F0.set W1 (Nat.lt_of_not_le fun q => hj (Or.inr q)) (fits_nar_short x)))
theorem own_aastore (X : Stand p l e R s m args below meth c T locs cells slots) (hx : p.tables.exec = Jvm.exec) (hby : c.code = bs) (hZ : Z.Warmed39 s.vm) {a : Addr} {j : Int32} {v : Value} {n : Nat} {ty : FieldType} {f : Nat → Value} (eT : T.heap = h) (F : Afn Z h a ty n f) (hj : ¬ (j < 0 ∨ n ≤ j.toNatClampNeg)) (hty : ty.isReference = true) (hfv : fits ty v = true) (So : Sto Z h a v) (hd : decode bs pc = .ok (.aastore, 1)) (pc' : Nat) (hp : pc + 1 = pc') (k : ∀ T' h', Stand p l e R s m args below meth c T' (locs ++ [⟨a, j.toNatClampNeg⟩]) cells slots → T'.heap = h' → Wr h h' a j.toNatClampNeg v → Afn Z h' a ty n (upd f j.toNatClampNeg v) → Go p e below G T' (mkF m pc' Ls st)) : Go p e below G T (mkF m pc Ls (v :: .int j :: .ref a :: st)) := by
  subst hp
  have F0 := F
  obtain ⟨cl, A, S, H⟩ := F
  obtain ⟨T1, h1, X1, e1, W1, st1⟩ := stR X hx hZ eT A (j := j) (by rw [S]; exact hj) hty So (g := mkF m pc Ls (v :: .int j :: .ref a :: st)) rfl rfl (hb hby hd)
  exact Go.by (fun t q => st1 t q) (k T1 h1 X1 e1 W1 (F0.set W1 (Nat.lt_of_not_le fun q => hj (Or.inr q)) hfv))
theorem own_newarray (X : Stand p l e R s m args below meth c T locs cells slots) (hx : p.tables.exec = Jvm.exec) (hby : c.code = bs) (hZ : Z.Warmed39 s.vm) {aty : ArrayType} {z : Int32} {n cap : Nat} {ad : String} (w : (Jvm.Cond.arrayClass (newarray.typeOf aty)).before a0 Z = true) (eT : T.heap = h) (hd : decode bs pc = .ok (.newarray aty, 2)) (hz : ¬ z < 0) (hn : z.toNatClampNeg = n) (hcap : n ≤ cap) (hb8 : cap * 8 ≤ 536870912) (hcl : cells + 1 ≤ R.cells) (hsl : slots + cap ≤ R.slots) (had : "[" ++ (newarray.typeOf aty).toString = ad) (pc' : Nat) (hp : pc + 2 = pc') (k : ∀ T' h' (b : Addr), b = h.size → Stand p l e R s m args below meth c T' locs (cells + 1) (slots + cap) → T'.heap = h' → Ext h h' → Afn Z h' b (newarray.typeOf aty) n (fun _ => defaultValue (newarray.typeOf aty)) → Exa Z h' b ad → Go p e below G T' (mkF m pc' Ls (.ref b :: st))) : Go p e below G T (mkF m pc Ls (.int z :: st)) := by
  subst hp
  obtain ⟨T1, h1, cA, X1, e1, E1, A1, Ex1, st1⟩ := newPE X hx hZ w eT (g := mkF m pc Ls (.int z :: st)) rfl (hb hby hd) rfl hz (cap := cap) (by rw [hn]; exact hcap) hb8 hcl hsl had
  exact Go.by (fun t q => st1 t q) (k T1 h1 _ rfl X1 e1 E1 (Afn.new A1 hn) Ex1)
theorem own_anewarray (X : Stand p l e R s m args below meth c T locs cells slots) (hx : p.tables.exec = Jvm.exec) (hby : c.code = bs) (hZ : Z.Warmed39 s.vm) {own C : String} {idx : Nat} {z : Int32} {n cap : Nat} {ad : String} (hown : s.vm.findClass own = some m.cls) (w1 : (Jvm.Cond.classLink own idx C).before a0 Z = true) (w2 : (Jvm.Cond.arrayOver (.object C)).before a0 Z = true) (eT : T.heap = h) (hd : decode bs pc = .ok (.anewarray idx, 3)) (hz : ¬ z < 0) (hn : z.toNatClampNeg = n) (hcap : n ≤ cap) (hb8 : cap * 8 ≤ 536870912) (hcl : cells + 1 ≤ R.cells) (hsl : slots + cap ≤ R.slots) (had : "[" ++ (FieldType.object C).toString = ad) (pc' : Nat) (hp : pc + 3 = pc') (k : ∀ T' h' (b : Addr) cA, b = h.size → Stand p l e R s m args below meth c T' locs (cells + 1) (slots + cap) → T'.heap = h' → Ext h h' → Afn Z h' b (.object C) n (fun _ => .null) → Exa Z h' b ad → Arr Z h' b (newA cA (.object C) z) (.object C) → Ovr Z cA C → Go p e below G T' (mkF m pc' Ls (.ref b :: st))) : Go p e below G T (mkF m pc Ls (.int z :: st)) := by
  subst hp
  obtain ⟨T1, h1, cA, X1, e1, E1, A1, Ex1, O1, st1⟩ := newRE X hx hZ hown w1 w2 eT (g := mkF m pc Ls (.int z :: st)) rfl (hb hby hd) rfl hz (cap := cap) (by rw [hn]; exact hcap) hb8 hcl hsl had
  exact Go.by (fun t q => st1 t q) (k T1 h1 _ cA rfl X1 e1 E1 (Afn.new A1 hn) Ex1 A1 O1)
theorem own_lremV (x y : Int64) : 0 ≤ x.toInt → 0 < y.toInt → 0 ≤ (x % y).toInt ∧ (x % y).toInt < y.toInt := by
  intro h1 h2
  rw [Int64.toInt_mod, (tr x.toInt y.toInt).1 h1]
  exact ⟨Int.emod_nonneg _ (by omega), Int.emod_lt_of_pos _ h2⟩
theorem own_NSroot {O K : String} {n : Nat} (w : (Jvm.Cond.noSuperclass O).before a0 Z = true) (wk : (Jvm.Cond.instantiable K n).before a0 Z = true) (hn : O ≠ K) : NS Z O K := by
  obtain ⟨c, k, h1, h2, h3, -, -⟩ := Cond.noSuperclass_spec w
  obtain ⟨t, k2, g1, -⟩ := Cond.instantiable_spec wk
  have ne := ids_ne h1 g1 hn
  refine ⟨c, t, h1, g1, fun fuel => ?_⟩
  cases fuel with
  | zero => rfl
  | succ f => simp [Vm.isSubclassAux, ne, h2, h3]
theorem own_NSno {C S K : String} {n : Nat} (w : (Jvm.Cond.superclass C S).before a0 Z = true) (wk : (Jvm.Cond.instantiable K n).before a0 Z = true) (nn : NS Z C K) (hn : C ≠ K) : ∃ c t, Z.vm.findClass C = some c ∧ Z.vm.findClass K = some t ∧ Z.vm.assignable c t = false := by
  obtain ⟨c, t, h0, g0, n3⟩ := nn
  obtain ⟨p, k, kp, h1, h2, h3, h4, h5, -, h7⟩ := Cond.superclass_spec h0 w
  obtain ⟨t', k', g1, g2, g5, g6, -, -⟩ := Cond.instantiable_spec wk
  cases g0.symm.trans g1
  have ne := ids_ne h0 g0 hn
  have g7 : k'.isInterface = false := (Bool.or_eq_false_iff.mp g6).1
  refine ⟨c, t, h0, g0, ?_⟩
  show Z.vm.assignableAux (255 + 1) c t = false
  simp [Vm.assignableAux, ne, h2, g2, h5, g5, g7, Vm.isSubclass, n3]
theorem own_ext0 {h0 : Heap} (K : Keep h0 h []) : Ext h0 h := ⟨K.1, fun a c q => K.2.1 a c q nin0⟩
/-- an array of references over the class C takes objects of C -/
def Orr (Z : State) (h : Heap) (b : Addr) (C : String) : Prop := ∃ (c : Cell) (cA : ClassId), Arr Z h b c (.object C) ∧ c.cls = cA ∧ Ovr Z cA C
theorem Orr.lt {b : Addr} {C : String} (F : Orr Z h b C) : b < h.size := by obtain ⟨c, cA, A, -⟩ := F; exact A.lt
theorem Orr.ext {h' : Heap} {b : Addr} {C : String} (F : Orr Z h b C) (E : Ext h h') : Orr Z h' b C := by obtain ⟨c, cA, A, r⟩ := F; exact ⟨c, cA, A.ext E, r⟩
theorem Orr.wr {h' : Heap} {a b : Addr} {C : String} {sl : Nat} {v : Value} (F : Orr Z h b C) (W : Wr h h' a sl v) : Orr Z h' b C := by
  obtain ⟨c, cA, A, q, O⟩ := F
  by_cases e : b = a
  · subst e; exact ⟨_, cA, A.same W, q, O⟩
  · exact ⟨c, cA, A.other W e, q, O⟩
theorem Orr.sto {b y : Addr} {C : String} (F : Orr Z h b C) (I : Ins Z h y C true) : Sto Z h b (.ref y) := by
  obtain ⟨c, cA, A, q, O⟩ := F
  exact Sto.ofV A q O I
theorem own_clone (X : Stand p l e R s m args below meth c T locs cells slots) (hx : p.tables.exec = Jvm.exec) (hby : c.code = bs) (hZ : Z.Warmed39 s.vm) {own ad : String} {idx : Nat} {a : Addr} {ty : FieldType} {n cap : Nat} {g : Nat → Int32} (hown : s.vm.findClass own = some m.cls) (w1 : (Jvm.Cond.methodLink own idx ⟨ad, "clone", "()Ljava/lang/Object;"⟩).before a0 Z = true) (w2 : (Jvm.Cond.sameMethod ad "java/lang/Object" "clone" "()Ljava/lang/Object;").before a0 Z = true) (w3 : (Jvm.Cond.native ⟨"java/lang/Object", "clone", "()Ljava/lang/Object;"⟩).before a0 Z = true)
    (w4 : (Jvm.Cond.instanceMethod ⟨"java/lang/Object", "clone", "()Ljava/lang/Object;"⟩).before a0 Z = true) (w5 : (Jvm.Cond.selects ad ⟨ad, "clone", "()Ljava/lang/Object;"⟩ ⟨"java/lang/Object", "clone", "()Ljava/lang/Object;"⟩).before a0 Z = true) (w6 : (Jvm.Cond.castable ad "java/lang/Cloneable").before a0 Z = true)
    (eT : T.heap = h) (F : Afi Z h a ty n g) (E : Exa Z h a ad) (hml : Ls.size = c.maxLocals) (hd : decode bs pc = .ok (.invokevirtual idx, 3)) (hf : 1 ≤ R.frames) (W : Nat) (hW : (st.map fun v => v.category).sum = W) (hl : W + 14 ≤ R.locals) (hcap : n ≤ cap) (hcl : cells + 1 ≤ R.cells) (hsl : slots + cap ≤ R.slots) (pc' : Nat) (hp : pc + 3 = pc')
    (k : ∀ T' h' (b : Addr), b = h.size → Stand p l e R s m args below meth c T' locs (cells + 1) (slots + cap) → T'.heap = h' → Ext h h' → Afi Z h' b ty n g → Exa Z h' b ad → Go p e below G T' (mkF m pc' Ls (.ref b :: st))) : Go p e below G T (mkF m pc Ls (.ref a :: st)) := by
  subst hp
  obtain ⟨cl, A, S, H⟩ := F
  have FC : FitC Z cl := fitC_of A fun i hi v hv => by rw [(H i (S ▸ hi)).1] at hv; cases hv; exact (H i (S ▸ hi)).2
  obtain ⟨T1, h1, X1, e1, E1, A1, Ex1, st1⟩ := cloneA X hx hZ hown w1 w2 w3 w4 w5 w6 eT A E FC (g := mkF m pc Ls (.ref a :: st)) rfl hml rfl (hb hby hd) hf (W := W) (by show 2 * 0 + _ ≤ _; omega) hl (cap := cap) (by rw [S]; exact hcap) hcl hsl
  exact Go.by (fun t q => st1 t q) (k T1 h1 _ rfl X1 e1 E1 ⟨_, A1, S, H⟩ Ex1)
theorem own_fld_start {t : Term} {C n d : String} {k : Int32} {a : Addr} (ev : t.eval args Z none [] Z = some (.ref a)) (hh : (Jvm.Cond.eq (.field t C n d) (.int k)).value args Z none Z [] = some true) : Fld Z Z.heap a C n d (.int k) := by
  obtain ⟨x, y, h1, h2, h3, h4⟩ := cmp_v (Or.inl hh)
  have h2' : y = .int k := (Option.some.inj h2).symm
  subst h2'
  obtain ⟨z, rfl⟩ := h4
  have q : z = k := by
    simp only [Cond.value, h1, h2] at hh
    exact of_decide_eq_true (Option.some.inj hh)
  subst q
  rw [fld_at ev] at h1
  exact Fld.start h1
end OwnGo

/-- the half of n - 400 -/
def own_h (n : Nat) : UInt64 := FP.ddiv (FP.i2d (Int32.ofInt ((n : Int) - 400))) 4611686018427387904
theorem own_mono : ∀ n, n < 800 → Jvm.FP.Core.dkey (own_h n) < Jvm.FP.Core.dkey (own_h (n + 1)) := by decide +kernel
theorem own_even : ∀ w : Nat, w < 361 → FP.i2d (Int32.ofInt ((w : Int) - 180)) = own_h (2 * w + 40) := by decide +kernel
theorem own_nan : ∀ n, n < 801 → Jvm.FP.Core.dIsNaN (own_h n) = false := by decide +kernel
theorem own_nn {n : Nat} (h : n < 801) : Jvm.Free.Fl.NoNaN64 (own_h n) := Jvm.Free.Fl.noNaN64_no.mpr (own_nan n h)
theorem own_up : ∀ (k n : Nat), n + k < 801 → k ≠ 0 → Jvm.FP.Core.dkey (own_h n) < Jvm.FP.Core.dkey (own_h (n + k))
  | 0, _, _, q => absurd rfl q
  | 1, n, h, _ => own_mono n (by omega)
  | k + 2, n, h, _ => Int.lt_trans (own_up (k + 1) n (by omega) (by omega)) (own_mono (n + k + 1) (by omega))
/-- the comparison of two halves is the wholes' -/
theorem own_cmp {n m : Nat} (hn : n < 801) (hm : m < 801) (o : CmpOp) : cmpValue (FP.dcmp (own_h n) (own_h m)) o = (if n < m then (-1 : Int32) else if n = m then (0 : Int32) else (1 : Int32)) := by
  have vn : Jvm.FP.Core.val64 (own_h n) ≠ .nan := (Jvm.FP.Core.notNaN_iff _).mp (own_nan n hn)
  have vm : Jvm.FP.Core.val64 (own_h m) ≠ .nan := (Jvm.FP.Core.notNaN_iff _).mp (own_nan m hm)
  by_cases h1 : n < m
  · have q : FP.dcmp (own_h n) (own_h m) = some .lt := (Jvm.FP.Core.dcmp_lt_key vn vm).mpr (by
      have u := own_up (m - n) n (by omega) (by omega)
      rwa [show n + (m - n) = m by omega] at u)
    rw [q, if_pos h1]
    cases o <;> rfl
  · by_cases h2 : n = m
    · have q : FP.dcmp (own_h n) (own_h m) = some .eq := (Jvm.FP.Core.dcmp_eq_key vn vm).mpr (by rw [h2])
      rw [q, if_neg h1, if_pos h2]
      cases o <;> rfl
    · have q : FP.dcmp (own_h n) (own_h m) = some .gt := (Jvm.FP.Core.dcmp_gt_key vn vm).mpr (by
        have u := own_up (n - m) m (by omega) (by omega)
        rwa [show m + (n - m) = n by omega] at u)
      rw [q, if_neg h1, if_neg h2]
      cases o <;> rfl
section OwnDbl
variable {p : Program} {l : Launch} {e : Env} {R : Room} {s : State} {m : MethodId} {args : Array Value} {below : List Frame} {meth : Method} {c : Code} {T T' : State} {locs : List Loc} {cells slots : Nat} {G : State → Outcome → Prop} {Ls : Array Slot} {st : List Value} {pc : Nat} {bs : ByteArray} {Z : State} {a0 : Array Value} {h : Heap}
theorem own_dload (X : Stand p l e R s m args below meth c T locs cells slots) (hx : p.tables.exec = Jvm.exec) (hby : c.code = bs) {n : Nat} (v : UInt64) (hd : decode bs pc = .ok (.dload n, 2)) (hl : Ls[n]? = some (.val (.double v))) (pc' : Nat) (hp : pc + 2 = pc') (k : Go p e below G T (mkF m pc' Ls (.double v :: st))) : Go p e below G T (mkF m pc Ls st) := by
  subst hp
  exact Go.by (fun t q => XS.dload X.here hx rfl (hb hby hd) hl q) k
theorem own_dloadN (X : Stand p l e R s m args below meth c T locs cells slots) (hx : p.tables.exec = Jvm.exec) (hby : c.code = bs) {n : Fin 4} (v : UInt64) (hd : decode bs pc = .ok (.dload_n n, 1)) (hl : Ls[n.val]? = some (.val (.double v))) (pc' : Nat) (hp : pc + 1 = pc') (k : Go p e below G T (mkF m pc' Ls (.double v :: st))) : Go p e below G T (mkF m pc Ls st) := by
  subst hp
  exact Go.by (fun t q => XS.dloadN X.here hx rfl (hb hby hd) hl q) k
theorem own_i2d (X : Stand p l e R s m args below meth c T locs cells slots) (hx : p.tables.exec = Jvm.exec) (hby : c.code = bs) {x : Int32} (v : UInt64) (hd : decode bs pc = .ok (.i2d, 1)) (hv : FP.i2d x = v) (pc' : Nat) (hp : pc + 1 = pc') (k : Go p e below G T (mkF m pc' Ls (.double v :: st))) : Go p e below G T (mkF m pc Ls (.int x :: st)) := by
  subst hp
  exact Go.by (fun t q => XS.i2dS X.here hx rfl (hb hby hd) rfl hv q) k
theorem own_ddiv (X : Stand p l e R s m args below meth c T locs cells slots) (hx : p.tables.exec = Jvm.exec) (hby : c.code = bs) {x y : UInt64} (v : UInt64) (hd : decode bs pc = .ok (.ddiv, 1)) (hv : FP.ddiv x y = v) (hn : Jvm.Free.Fl.NoNaN64 v) (pc' : Nat) (hp : pc + 1 = pc') (k : Go p e below G T (mkF m pc' Ls (.double v :: st))) : Go p e below G T (mkF m pc Ls (.double y :: .double x :: st)) := by
  subst hp
  exact Go.by (fun t q => XS.ddivS X.here hx rfl (hb hby hd) rfl (hv ▸ hn) hv q) k
theorem own_ldc2D (X : Stand p l e R s m args below meth c T locs cells slots) (hx : p.tables.exec = Jvm.exec) (hby : c.code = bs) (hZ : Z.Warmed39 s.vm) {own : String} {idx : Nat} {b : UInt64} (v : UInt64) (hown : s.vm.findClass own = some m.cls) (w : (Jvm.Cond.constantDouble own idx b).before a0 Z = true) (hv : b = v) (hd : decode bs pc = .ok (.ldc2_w idx, 3)) (pc' : Nat) (hp : pc + 3 = pc') (k : Go p e below G T (mkF m pc' Ls (.double v :: st))) : Go p e below G T (mkF m pc Ls st) := by
  subst hp
  subst hv
  exact Go.by (fun t q => X.ldc2DoubleC hx hown (mvT hZ w) (g := mkF m pc Ls st) rfl (hb hby hd) t q) k
def own_c (n m : Nat) : Int32 := if n < m then (-1 : Int32) else if n = m then (0 : Int32) else (1 : Int32)
theorem own_c_lt (n m : Nat) : own_c n m < (0 : Int32) ↔ n < m := by
  unfold own_c
  by_cases h1 : n < m
  · rw [if_pos h1]; exact ⟨fun _ => h1, fun _ => by decide⟩
  · by_cases h2 : n = m
    · rw [if_neg h1, if_pos h2]; exact ⟨fun q => absurd q (by decide), fun q => absurd q h1⟩
    · rw [if_neg h1, if_neg h2]; exact ⟨fun q => absurd q (by decide), fun q => absurd q h1⟩
theorem own_c_gt (n m : Nat) : (0 : Int32) < own_c n m ↔ m < n := by
  unfold own_c
  by_cases h1 : n < m
  · rw [if_pos h1]; exact ⟨fun q => absurd q (by decide), fun q => by omega⟩
  · by_cases h2 : n = m
    · rw [if_neg h1, if_pos h2]; exact ⟨fun q => absurd q (by decide), fun q => by omega⟩
    · rw [if_neg h1, if_neg h2]; exact ⟨fun _ => by omega, fun _ => by decide⟩
theorem own_c_eq (n m : Nat) : own_c n m = (0 : Int32) ↔ n = m := by
  unfold own_c
  by_cases h1 : n < m
  · rw [if_pos h1]; exact ⟨fun q => absurd q (by decide), fun q => by omega⟩
  · by_cases h2 : n = m
    · rw [if_neg h1, if_pos h2]; exact ⟨fun _ => h2, fun _ => rfl⟩
    · rw [if_neg h1, if_neg h2]; exact ⟨fun q => absurd q (by decide), fun q => absurd q h2⟩
theorem own_dcmp_eq (X : Stand p l e R s m args below meth c T locs cells slots) (hx : p.tables.exec = Jvm.exec) (hby : c.code = bs) {o : Int} {op : CmpOp} {x y : Nat} (bx : x < 801) (hy : y < 801) (hd : decode bs pc = .ok (.dcmp op, 1)) (hd2 : decode bs (pc + 1) = .ok (.ifCond .eq o, 3)) (pT pF : Nat) (hp : 0 ≤ ((pc + 1 : Nat) : Int) + o ∧ (((pc + 1 : Nat) : Int) + o).toNat = pT) (hpF : pc + 4 = pF) (kT : x = y → Go p e below G T (mkF m pT Ls st)) (kF : ¬ x = y → Go p e below G T (mkF m pF Ls st)) : Go p e below G T (mkF m pc Ls (.double (own_h y) :: .double (own_h x) :: st)) := by
  refine Go.by (fun t r => XS.dcmpS X.here hx rfl (hb hby hd) rfl (own_cmp bx hy op) r) (g' := mkF m (pc + 1) Ls (.int (own_c x y) :: st)) ?_
  refine own_if_eq X hx hby hd2 pT pF hp (by omega) (fun q => kT ?_) (fun q => kF ?_)
  · exact (own_c_eq x y).mp q
  · exact fun r => q ((own_c_eq x y).mpr r)
theorem own_dcmp_ne (X : Stand p l e R s m args below meth c T locs cells slots) (hx : p.tables.exec = Jvm.exec) (hby : c.code = bs) {o : Int} {op : CmpOp} {x y : Nat} (bx : x < 801) (hy : y < 801) (hd : decode bs pc = .ok (.dcmp op, 1)) (hd2 : decode bs (pc + 1) = .ok (.ifCond .ne o, 3)) (pT pF : Nat) (hp : 0 ≤ ((pc + 1 : Nat) : Int) + o ∧ (((pc + 1 : Nat) : Int) + o).toNat = pT) (hpF : pc + 4 = pF) (kT : ¬ x = y → Go p e below G T (mkF m pT Ls st)) (kF : x = y → Go p e below G T (mkF m pF Ls st)) : Go p e below G T (mkF m pc Ls (.double (own_h y) :: .double (own_h x) :: st)) := by
  refine Go.by (fun t r => XS.dcmpS X.here hx rfl (hb hby hd) rfl (own_cmp bx hy op) r) (g' := mkF m (pc + 1) Ls (.int (own_c x y) :: st)) ?_
  refine own_if_ne X hx hby hd2 pT pF hp (by omega) (fun q => kT ?_) (fun q => kF ?_)
  · exact fun r => q ((own_c_eq x y).mpr r)
  · exact (own_c_eq x y).mp q
theorem own_dcmp_lt (X : Stand p l e R s m args below meth c T locs cells slots) (hx : p.tables.exec = Jvm.exec) (hby : c.code = bs) {o : Int} {op : CmpOp} {x y : Nat} (bx : x < 801) (hy : y < 801) (hd : decode bs pc = .ok (.dcmp op, 1)) (hd2 : decode bs (pc + 1) = .ok (.ifCond .lt o, 3)) (pT pF : Nat) (hp : 0 ≤ ((pc + 1 : Nat) : Int) + o ∧ (((pc + 1 : Nat) : Int) + o).toNat = pT) (hpF : pc + 4 = pF) (kT : x < y → Go p e below G T (mkF m pT Ls st)) (kF : ¬ x < y → Go p e below G T (mkF m pF Ls st)) : Go p e below G T (mkF m pc Ls (.double (own_h y) :: .double (own_h x) :: st)) := by
  refine Go.by (fun t r => XS.dcmpS X.here hx rfl (hb hby hd) rfl (own_cmp bx hy op) r) (g' := mkF m (pc + 1) Ls (.int (own_c x y) :: st)) ?_
  refine own_if_lt X hx hby hd2 pT pF hp (by omega) (fun q => kT ?_) (fun q => kF ?_)
  · exact (own_c_lt x y).mp q
  · exact fun r => q ((own_c_lt x y).mpr r)
theorem own_dcmp_ge (X : Stand p l e R s m args below meth c T locs cells slots) (hx : p.tables.exec = Jvm.exec) (hby : c.code = bs) {o : Int} {op : CmpOp} {x y : Nat} (bx : x < 801) (hy : y < 801) (hd : decode bs pc = .ok (.dcmp op, 1)) (hd2 : decode bs (pc + 1) = .ok (.ifCond .ge o, 3)) (pT pF : Nat) (hp : 0 ≤ ((pc + 1 : Nat) : Int) + o ∧ (((pc + 1 : Nat) : Int) + o).toNat = pT) (hpF : pc + 4 = pF) (kT : ¬ x < y → Go p e below G T (mkF m pT Ls st)) (kF : x < y → Go p e below G T (mkF m pF Ls st)) : Go p e below G T (mkF m pc Ls (.double (own_h y) :: .double (own_h x) :: st)) := by
  refine Go.by (fun t r => XS.dcmpS X.here hx rfl (hb hby hd) rfl (own_cmp bx hy op) r) (g' := mkF m (pc + 1) Ls (.int (own_c x y) :: st)) ?_
  refine own_if_ge X hx hby hd2 pT pF hp (by omega) (fun q => kT ?_) (fun q => kF ?_)
  · exact fun r => q ((own_c_lt x y).mpr r)
  · exact (own_c_lt x y).mp q
theorem own_dcmp_gt (X : Stand p l e R s m args below meth c T locs cells slots) (hx : p.tables.exec = Jvm.exec) (hby : c.code = bs) {o : Int} {op : CmpOp} {x y : Nat} (bx : x < 801) (hy : y < 801) (hd : decode bs pc = .ok (.dcmp op, 1)) (hd2 : decode bs (pc + 1) = .ok (.ifCond .gt o, 3)) (pT pF : Nat) (hp : 0 ≤ ((pc + 1 : Nat) : Int) + o ∧ (((pc + 1 : Nat) : Int) + o).toNat = pT) (hpF : pc + 4 = pF) (kT : y < x → Go p e below G T (mkF m pT Ls st)) (kF : ¬ y < x → Go p e below G T (mkF m pF Ls st)) : Go p e below G T (mkF m pc Ls (.double (own_h y) :: .double (own_h x) :: st)) := by
  refine Go.by (fun t r => XS.dcmpS X.here hx rfl (hb hby hd) rfl (own_cmp bx hy op) r) (g' := mkF m (pc + 1) Ls (.int (own_c x y) :: st)) ?_
  refine own_if_gt X hx hby hd2 pT pF hp (by omega) (fun q => kT ?_) (fun q => kF ?_)
  · exact (own_c_gt x y).mp q
  · exact fun r => q ((own_c_gt x y).mpr r)
theorem own_dcmp_le (X : Stand p l e R s m args below meth c T locs cells slots) (hx : p.tables.exec = Jvm.exec) (hby : c.code = bs) {o : Int} {op : CmpOp} {x y : Nat} (bx : x < 801) (hy : y < 801) (hd : decode bs pc = .ok (.dcmp op, 1)) (hd2 : decode bs (pc + 1) = .ok (.ifCond .le o, 3)) (pT pF : Nat) (hp : 0 ≤ ((pc + 1 : Nat) : Int) + o ∧ (((pc + 1 : Nat) : Int) + o).toNat = pT) (hpF : pc + 4 = pF) (kT : ¬ y < x → Go p e below G T (mkF m pT Ls st)) (kF : y < x → Go p e below G T (mkF m pF Ls st)) : Go p e below G T (mkF m pc Ls (.double (own_h y) :: .double (own_h x) :: st)) := by
  refine Go.by (fun t r => XS.dcmpS X.here hx rfl (hb hby hd) rfl (own_cmp bx hy op) r) (g' := mkF m (pc + 1) Ls (.int (own_c x y) :: st)) ?_
  refine own_if_le X hx hby hd2 pT pF hp (by omega) (fun q => kT ?_) (fun q => kF ?_)
  · exact fun r => q ((own_c_gt x y).mpr r)
  · exact (own_c_gt x y).mp q
theorem own_daload (X : Stand p l e R s m args below meth c T locs cells slots) (hx : p.tables.exec = Jvm.exec) (hby : c.code = bs) (hZ : Z.Warmed39 s.vm) {a : Addr} {j : Int32} {n : Nat} {f : Nat → Value} (v : Value) (eT : T.heap = h) (F : Afn Z h a .double n f) (hj : ¬ (j < 0 ∨ n ≤ j.toNatClampNeg)) (hv : f j.toNatClampNeg = v) (hd : decode bs pc = .ok (.daload, 1)) (pc' : Nat) (hp : pc + 1 = pc') (k : Go p e below G T (mkF m pc' Ls (v :: st))) : Go p e below G T (mkF m pc Ls (.int j :: .ref a :: st)) := by
  subst hp
  subst hv
  obtain ⟨cl, A, S, H⟩ := F
  subst S
  exact Go.by (fun t q => X.daload hx (j := j) (v := f j.toNatClampNeg) (by rw [eT]; exact A.1) (State.isArrayOf_alike hZ.alike A.2.1) A.2.2 hj (H _ (Nat.lt_of_not_le fun q => hj (Or.inr q))).1 (g := mkF m pc Ls (.int j :: .ref a :: st)) rfl rfl (hb hby hd) t q) k
theorem own_dastore (X : Stand p l e R s m args below meth c T locs cells slots) (hx : p.tables.exec = Jvm.exec) (hby : c.code = bs) (hZ : Z.Warmed39 s.vm) {a : Addr} {j : Int32} {x : UInt64} {n : Nat} {f : Nat → Value} (eT : T.heap = h) (F : Afn Z h a .double n f) (hj : ¬ (j < 0 ∨ n ≤ j.toNatClampNeg)) (hd : decode bs pc = .ok (.dastore, 1)) (pc' : Nat) (hp : pc + 1 = pc') (k : ∀ T' h', Stand p l e R s m args below meth c T' (locs ++ [⟨a, j.toNatClampNeg⟩]) cells slots → T'.heap = h' → Wr h h' a j.toNatClampNeg (.double x) → Afn Z h' a .double n (upd f j.toNatClampNeg (.double x)) → Go p e below G T' (mkF m pc' Ls st)) : Go p e below G T (mkF m pc Ls (.double x :: .int j :: .ref a :: st)) := by
  subst hp
  have F0 := F
  obtain ⟨cl, A, S, H⟩ := F
  obtain ⟨T1, h1, X1, e1, W1, st1⟩ := stD X hx hZ eT A (j := j) (x := x) (by rw [S]; exact hj) (g := mkF m pc Ls (.double x :: .int j :: .ref a :: st)) rfl rfl (hb hby hd)
  exact Go.by (fun t q => st1 t q) (k T1 h1 X1 e1 W1 (F0.set W1 (Nat.lt_of_not_le fun q => hj (Or.inr q)) rfl))
/-- an array of arrays over ty takes arrays of class C -/
def OrrA (Z : State) (h : Heap) (b : Addr) (ty : FieldType) (C : String) : Prop := ∃ (c : Cell) (cA : ClassId), Arr Z h b c (.array ty) ∧ c.cls = cA ∧ OvrA Z cA ty C
theorem OrrA.ext {h' : Heap} {b : Addr} {ty : FieldType} {C : String} (F : OrrA Z h b ty C) (E : Ext h h') : OrrA Z h' b ty C := by obtain ⟨c, cA, A, r⟩ := F; exact ⟨c, cA, A.ext E, r⟩
theorem OrrA.wr {h' : Heap} {a b : Addr} {ty : FieldType} {C : String} {sl : Nat} {v : Value} (F : OrrA Z h b ty C) (W : Wr h h' a sl v) : OrrA Z h' b ty C := by
  obtain ⟨c, cA, A, q, O⟩ := F
  by_cases e : b = a
  · subst e; exact ⟨_, cA, A.same W, q, O⟩
  · exact ⟨c, cA, A.other W e, q, O⟩
theorem OrrA.sto {b y : Addr} {ty : FieldType} {C : String} (F : OrrA Z h b ty C) (I : Ins Z h y C true) : Sto Z h b (.ref y) := by
  obtain ⟨c, cA, A, q, O⟩ := F
  exact Sto.ofVA A q O I
theorem own_anewarrayA (X : Stand p l e R s m args below meth c T locs cells slots) (hx : p.tables.exec = Jvm.exec) (hby : c.code = bs) (hZ : Z.Warmed39 s.vm) {own C : String} {ty : FieldType} {idx : Nat} {z : Int32} {n cap : Nat} {ad : String} (hown : s.vm.findClass own = some m.cls) (hC : (FieldType.array ty).toString = C) (w1 : (Jvm.Cond.classLink own idx C).before a0 Z = true) (w2 : (Jvm.Cond.arrayOver (.array ty)).before a0 Z = true) (eT : T.heap = h) (hd : decode bs pc = .ok (.anewarray idx, 3)) (hz : ¬ z < 0) (hn : z.toNatClampNeg = n) (hcap : n ≤ cap) (hb8 : cap * 8 ≤ 536870912) (hcl : cells + 1 ≤ R.cells) (hsl : slots + cap ≤ R.slots) (had : "[" ++ C = ad) (pc' : Nat) (hp : pc + 3 = pc') (k : ∀ T' h' (b : Addr), b = h.size → Stand p l e R s m args below meth c T' locs (cells + 1) (slots + cap) → T'.heap = h' → Ext h h' → Afn Z h' b (.array ty) n (fun _ => .null) → Exa Z h' b ad → OrrA Z h' b ty C → Go p e below G T' (mkF m pc' Ls (.ref b :: st))) : Go p e below G T (mkF m pc Ls (.int z :: st)) := by
  subst hp
  obtain ⟨T1, h1, cA, X1, e1, E1, A1, Ex1, O1, st1⟩ := newRA X hx hZ hown hC w1 w2 eT (g := mkF m pc Ls (.int z :: st)) rfl (hb hby hd) rfl hz (cap := cap) (by rw [hn]; exact hcap) hb8 hcl hsl had
  exact Go.by (fun t q => st1 t q) (k T1 h1 _ rfl X1 e1 E1 (Afn.new A1 hn) Ex1 ⟨_, cA, A1, rfl, O1⟩)
end OwnDbl

/-! ## bodies that may load String constants: the Stand is over the start with the tables of now, 'Since' says how they came to be -/
def FinW (s : State) (Q : Option Value → Heap → List Loc → Prop) (kc ks : Nat) (U' : State) (o : Outcome) : Prop :=
  ∃ v L, o = .returned v ∧ Q v U'.heap L ∧ ReturnedEndW s o U' L kc ks
def Met1W (l : Launch) (Z : State) (y : MethodName) (bytes : ByteArray) (maxL : Nat) (rt : Option FieldType) (rm : Room) (as : Array Value) (h0 : Heap) (Q : Option Value → Heap → List Loc → Prop) : Prop :=
  ∀ ws : List Jvm.Cond, MetFree l y (head1 (Jvm.Cond.code y bytes maxL rt :: ws) rm) (fun a U => a = as ∧ Z.Warmed39 U.vm ∧ U.heap = h0) (fun _ _ _ _ _ => True)
    (fun _ U o U' => ∃ v L, o = .returned v ∧ Q v U'.heap L ∧ ReturnedEndW U o U' L rm.cells rm.slots)
section OwnWide
variable {p : Program} {l : Launch} {e : Env} {R : Room} {s : State} {m : MethodId} {args : Array Value} {below : List Frame} {meth : Method} {c : Code} {T T' : State} {locs : List Loc} {cells slots : Nat} {G : State → Outcome → Prop} {Ls : Array Slot} {st : List Value} {pc : Nat} {bs : ByteArray} {Z : State} {a0 : Array Value} {h : Heap} {g g' : JFrame} {vm0 : Vm}
theorem own_met_ofW {Z : State} {y : MethodName} {bytes : ByteArray} {maxL : Nat} {rt : Option FieldType} {rm : Room} {as : Array Value} {h0 : Heap} {Q : Option Value → Heap → List Loc → Prop} {Ls0 : Array Slot} (hpl : plainFor y = true) (ef : ∀ m, entryFrame m as maxL = mkF m 0 Ls0 [])
    (body : ∀ (p : Program) (e : Env) (s : State) (m : MethodId) (below : List Frame) (meth : Method) (c : Code) (s₁ : State) (vm0 : Vm), Stand p l e rm (s.setVm vm0) m as below meth c s₁ [] 0 0 → p.tables.exec = Jvm.exec → c.code = bytes → c.maxLocals = maxL → Z.Warmed39 (s.setVm vm0).vm → (s.setVm vm0).vm.findClass y.cls = some m.cls → meth.name = y.name → meth.sig.returnType = rt → meth.locks = false → s₁.heap = h0 → s.Since vm0 0 → s.heap = h0 →
      Go p e below (FinW s Q rm.cells rm.slots) s₁ (mkF m 0 Ls0 [])) : Met1W l Z y bytes maxL rt rm as h0 Q := by
  intro ws
  refine MetFree.of_bodySF hpl hisR ?_
  intro p e s m args below meth c s₁ Bd hml0 hP hK
  obtain ⟨rfl, hZ, hh⟩ := hP
  have k := body p e s m below meth c s₁ s.vm (Stand.of_body Bd) Bd.exec Bd.bytes hml0 hZ (findClass_of_methodNamed Bd.named) (name_of_methodNamed Bd.named Bd.method).1 Bd.returns Bd.notSynchronized (by rw [← hh, Bd.state]; rfl) ((State.WarmedH.refl s).since 0) hh
  rw [← ef m] at k
  exact k
theorem own_leaveW {Q : Option Value → Heap → List Loc → Prop} {kc ks k0 : Nat} {v : Option Value} (X : Stand p l e R (s.setVm vm0) m args below meth c T locs cells slots) (hS : s.Since vm0 k0) (hk : k0 ≤ T.heap.size) (hv : meth.sig.returnType = none → v = none) (hlk : meth.locks = false) (hc : cells ≤ kc) (hs : slots ≤ ks) (hQ : Q v T.heap locs)
    (k : ∀ fs, (∀ (f : JFrame) (acts : List Action), f.method = m → f.locked = none → f.entered = [] → (doReturn e (T.setTop f) acts v).1 = T.setFrames fs) → Steps p.tables e below (T.setTop g) (T.setFrames fs)) : Go p e below (FinW s Q kc ks) T g := by
  obtain ⟨fs, hr, hrun, hended, r1, r2, r3, r4⟩ := X.leaveW hS hk (v := v) hv hlk
  exact ⟨_, _, k fs hr, hrun, hended, _, _, rfl, hQ, r1, r2, r3, r4.mono hc hs⟩
theorem own_retNW {Q : Option Value → Heap → List Loc → Prop} {kc ks k0 : Nat} {z z' : Int32} {t : FieldType} (X : Stand p l e R (s.setVm vm0) m args below meth c T locs cells slots) (hx : p.tables.exec = Jvm.exec) (hby : c.code = bs) (hS : s.Since vm0 k0) (hk : k0 ≤ T.heap.size) (hret : meth.sig.returnType = some t) (hlk : meth.locks = false) (ht : t = .boolean ∨ t = .byte ∨ t = .char ∨ t = .short) (hd : decode bs pc = .ok (.ireturn, 1)) (hc : cells ≤ kc) (hs : slots ≤ ks) (hn : nar t z = z') (hQ : Q (some (.int z')) T.heap locs) : Go p e below (FinW s Q kc ks) T (mkF m pc Ls (.int z :: st)) := by
  subst hn
  refine own_leaveW X hS hk (fun q => by rw [hret] at q; cases q) hlk hc hs hQ fun fs hr => ?_
  exact retN X hx hret ht (hb hby hd) hr
theorem own_retW {Q : Option Value → Heap → List Loc → Prop} {kc ks k0 : Nat} (X : Stand p l e R (s.setVm vm0) m args below meth c T locs cells slots) (hx : p.tables.exec = Jvm.exec) (hby : c.code = bs) (hS : s.Since vm0 k0) (hk : k0 ≤ T.heap.size) (hret : meth.sig.returnType = none) (hlk : meth.locks = false) (hd : decode bs pc = .ok (.return_, 1)) (hc : cells ≤ kc) (hs : slots ≤ ks) (hQ : Q none T.heap locs) : Go p e below (FinW s Q kc ks) T (mkF m pc Ls []) := by
  refine own_leaveW X hS hk (fun _ => rfl) hlk hc hs hQ fun fs hr => ?_
  exact X.returnOut hx hret (hb hby hd) hr
theorem own_strAtoms (hZ : Z.Warmed39 (s.setVm vm0).vm) (wS : ∀ a ∈ Bundle.stringAtoms, a.before a0 Z = true) : ∀ a ∈ Bundle.stringAtoms, a.before args (s.setVm vm0) = true := fun d hd => by
  have q := wS d hd
  simp only [Bundle.stringAtoms, List.mem_cons, List.not_mem_nil, or_false] at hd
  rcases hd with rfl | rfl | rfl | rfl | rfl | rfl | rfl
  · exact mv (s := s.setVm vm0) hZ q
  · exact mv (s := s.setVm vm0) hZ q
  · exact mvA (s := s.setVm vm0) hZ q
  · exact mv (s := s.setVm vm0) hZ q
  · exact mv (s := s.setVm vm0) hZ q
  · exact mv (s := s.setVm vm0) hZ q
  · exact mv (s := s.setVm vm0) hZ q
theorem own_ldcS (X : Stand p l e R (s.setVm vm0) m args below meth c T locs cells slots) (hx : p.tables.exec = Jvm.exec) (hby : c.code = bs) (hZ : Z.Warmed39 (s.setVm vm0).vm) {own text : String} {idx k0 : Nat} (hown : (s.setVm vm0).vm.findClass own = some m.cls) (w : (Jvm.Cond.stringLink own idx text).before a0 Z = true) (wS : ∀ a ∈ Bundle.stringAtoms, a.before a0 Z = true) (eT : T.heap = h) (hS : s.Since vm0 k0) (hk : k0 ≤ h.size) (hd : decode bs pc = .ok (.ldc idx, 2)) (n : Nat) (hn : 4 * text.toList.length ≤ n) (hbig : n ≤ 536870912) (hcl : cells + 2 ≤ R.cells) (hsl : slots + (n + 4) ≤ R.slots) (pc' : Nat) (hp : pc + 2 = pc')
    (k : ∀ (T' : State) (h' : Heap) (a : Addr) (vm1 : Vm) (k1 : Nat), Stand p l e R (s.setVm vm1) m args below meth c T' locs (cells + 2) (slots + (n + 4)) → T'.heap = h' → Ext h h' → s.Since vm1 k1 → k1 ≤ h'.size → Z.Warmed39 (s.setVm vm1).vm → (s.setVm vm1).vm.findClass own = some m.cls → Go p e below G T' (mkF m pc' Ls (.ref a :: st))) : Go p e below G T (mkF m pc Ls st) := by
  subst hp
  obtain ⟨a, T1, X1, hS1, -, hb1, -, st1⟩ := X.ldcStringCold hx (own := own) hown (mvS hZ w) (own_strAtoms hZ wS) (g := mkF m pc Ls st) rfl (hb hby hd) hn hbig hcl hsl
  subst eT
  have E := ext_of hb1
  exact Go.by (fun t q => st1 t q) (k T1 _ a T1.vm _ X1 rfl E (hS.trans hS1 (Nat.le_trans hk E.1)) (Nat.le_refl _) (State.Warmed39.trans (t := s.setVm vm0) hZ hS1.1) (by rw [show (s.setVm T1.vm).vm = T1.vm from rfl, hS1.1.alike.findClass]; exact hown))
theorem own_callCW (X : Stand p l e R (s.setVm vm0) m args below meth c T locs cells slots) (hx : p.tables.exec = Jvm.exec) (hby : c.code = bs) (hZ : Z.Warmed39 (s.setVm vm0).vm) {own : String} {idx : Nat} {y : MethodName} {yb : ByteArray} {yml k0 : Nat} {rm : Room} {as : Array Value} {Qc : Option Value → Heap → List Loc → Prop} {a : Addr} (argsL : List Value) (has : (.ref a :: argsL).toArray = as) (hy1 : y.name = "<init>") (hown : (s.setVm vm0).vm.findClass own = some m.cls) (hS : s.Since vm0 k0) (hk : k0 ≤ h.size) (w1 : (Jvm.Cond.methodLink own idx y).before a0 Z = true) (w2 : (Jvm.Cond.instanceMethod y).before a0 Z = true) (w3 : (Jvm.Cond.initialized y.cls).before a0 Z = true) (w4 : (Jvm.Cond.code y yb yml none).before a0 Z = true) (hy : y.cls ≠ "java/lang/invoke/MethodHandle" ∧ y.cls ≠ "java/lang/invoke/VarHandle") (hd : decode bs pc = .ok (.invokespecial idx, 3)) (hM : Met1W l Z y yb yml none rm as h Qc) (eT : T.heap = h) {ps : List FieldType} {pr : Option FieldType} (hpd : parseMethodDescriptor y.desc = some ⟨ps, pr⟩) (hlen : argsL.length = ps.length) (hml : Ls.size = c.maxLocals) (hf : rm.frames + 1 ≤ R.frames) (W : Nat) (hW : (st.map fun v => v.category).sum = W) (hl : W + (yml + 11) + rm.locals ≤ R.locals) (hcl : cells + rm.cells ≤ R.cells) (hsl : slots + rm.slots ≤ R.slots) (pc' : Nat) (hp : pc + 3 = pc') (k : ∀ (T' : State) (L : List Loc) (v : Option Value) (vm1 : Vm), Stand p l e R (s.setVm vm1) m args below meth c T' (locs ++ L) (cells + rm.cells) (slots + rm.slots) → s.Since vm1 T'.heap.size → Z.Warmed39 (s.setVm vm1).vm → (s.setVm vm1).vm.findClass own = some m.cls → Qc v T'.heap L → Go p e below G T' (mkF m pc' Ls (v.toList ++ st))) : Go p e below G T (mkF m pc Ls (argsL.reverse ++ .ref a :: st)) := by
  subst hp
  subst has
  obtain ⟨v, vm₁, ⟨T1, L1, k1, n1⟩, -, X1, hS1, g1, ⟨Lc, hQ, l1, y1, z1⟩, st1⟩ := X.specialBackS hx (y := y) hy1 hown (mvT hZ w1) (mvT hZ w2) (mvT hZ w4) hy (backOfS (W := W) (hM []) hZ w4 w3 hf hl) (g := mkF m pc Ls (argsL.reverse ++ .ref a :: st)) rfl hml (Steps.refl _) (a := a) (argsL := argsL) (rest := st) (lenOf hpd hlen) rfl (by show 2 * 0 + _ ≤ _; omega) (hb hby hd) (fun _ _ => ⟨rfl, eT, hcl, hsl⟩)
  dsimp only [Pt.U, Pt.locs, Pt.cells, Pt.slots] at X1 l1 y1 z1 st1 hQ hS1 g1
  subst l1 y1 z1
  obtain ⟨X2, hS2, hZ2, hown2⟩ := rebS hS (eT ▸ hk) X1 hS1 g1 hZ hown
  exact Go.by (fun t q => st1.trans q) (k T1 Lc v _ X2 hS2 hZ2 hown2 hQ)
end OwnWide

theorem d1_0 : decode jdk_29_method_69_code 0 = .ok (.iload_n 0, 1) := by decide +kernel
theorem d1_1 : decode jdk_29_method_69_code 1 = .ok (.iload_n 1, 1) := by decide +kernel
theorem d1_2 : decode jdk_29_method_69_code 2 = .ok (.if_icmp .gt 7, 3) := by decide +kernel
theorem d1_5 : decode jdk_29_method_69_code 5 = .ok (.iload_n 0, 1) := by decide +kernel
theorem d1_6 : decode jdk_29_method_69_code 6 = .ok (.goto 4, 3) := by decide +kernel
theorem d1_9 : decode jdk_29_method_69_code 9 = .ok (.iload_n 1, 1) := by decide +kernel
theorem d1_10 : decode jdk_29_method_69_code 10 = .ok (.ireturn, 1) := by decide +kernel
theorem d2_0 : decode jdk_29_method_65_code 0 = .ok (.iload_n 0, 1) := by decide +kernel
theorem d2_1 : decode jdk_29_method_65_code 1 = .ok (.iload_n 1, 1) := by decide +kernel
theorem d2_2 : decode jdk_29_method_65_code 2 = .ok (.if_icmp .lt 7, 3) := by decide +kernel
theorem d2_5 : decode jdk_29_method_65_code 5 = .ok (.iload_n 0, 1) := by decide +kernel
theorem d2_6 : decode jdk_29_method_65_code 6 = .ok (.goto 4, 3) := by decide +kernel
theorem d2_9 : decode jdk_29_method_65_code 9 = .ok (.iload_n 1, 1) := by decide +kernel
theorem d2_10 : decode jdk_29_method_65_code 10 = .ok (.ireturn, 1) := by decide +kernel
theorem d9_0 : decode method_3_code 0 = .ok (.iload 5, 2) := by decide +kernel
theorem d9_2 : decode method_3_code 2 = .ok (.iload_n 1, 1) := by decide +kernel
theorem d9_3 : decode method_3_code 3 = .ok (.if_icmp .lt 9, 3) := by decide +kernel
theorem d9_6 : decode method_3_code 6 = .ok (.iload 5, 2) := by decide +kernel
theorem d9_8 : decode method_3_code 8 = .ok (.iload_n 3, 1) := by decide +kernel
theorem d9_9 : decode method_3_code 9 = .ok (.if_icmp .le 5, 3) := by decide +kernel
theorem d9_12 : decode method_3_code 12 = .ok (.iconst 0, 1) := by decide +kernel
theorem d9_13 : decode method_3_code 13 = .ok (.ireturn, 1) := by decide +kernel
theorem d9_14 : decode method_3_code 14 = .ok (.iload_n 0, 1) := by decide +kernel
theorem d9_15 : decode method_3_code 15 = .ok (.iload_n 2, 1) := by decide +kernel
theorem d9_16 : decode method_3_code 16 = .ok (.if_icmp .gt 53, 3) := by decide +kernel
theorem d9_19 : decode method_3_code 19 = .ok (.iload_n 0, 1) := by decide +kernel
theorem d9_20 : decode method_3_code 20 = .ok (.iload 4, 2) := by decide +kernel
theorem d9_22 : decode method_3_code 22 = .ok (.if_icmp .gt 11, 3) := by decide +kernel
theorem d9_25 : decode method_3_code 25 = .ok (.iload 4, 2) := by decide +kernel
theorem d9_27 : decode method_3_code 27 = .ok (.iload_n 2, 1) := by decide +kernel
theorem d9_28 : decode method_3_code 28 = .ok (.if_icmp .gt 5, 3) := by decide +kernel
theorem d9_31 : decode method_3_code 31 = .ok (.iconst 1, 1) := by decide +kernel
theorem d9_32 : decode method_3_code 32 = .ok (.ireturn, 1) := by decide +kernel
theorem d9_33 : decode method_3_code 33 = .ok (.iload 4, 2) := by decide +kernel
theorem d9_35 : decode method_3_code 35 = .ok (.sipush 360, 3) := by decide +kernel
theorem d9_38 : decode method_3_code 38 = .ok (.if_icmp .ne 12, 3) := by decide +kernel
theorem d9_41 : decode method_3_code 41 = .ok (.iload_n 0, 1) := by decide +kernel
theorem d9_42 : decode method_3_code 42 = .ok (.sipush (-360), 3) := by decide +kernel
theorem d9_45 : decode method_3_code 45 = .ok (.if_icmp .ne 5, 3) := by decide +kernel
theorem d9_48 : decode method_3_code 48 = .ok (.iconst 1, 1) := by decide +kernel
theorem d9_49 : decode method_3_code 49 = .ok (.ireturn, 1) := by decide +kernel
theorem d9_50 : decode method_3_code 50 = .ok (.iload 4, 2) := by decide +kernel
theorem d9_52 : decode method_3_code 52 = .ok (.sipush (-360), 3) := by decide +kernel
theorem d9_55 : decode method_3_code 55 = .ok (.if_icmp .ne 12, 3) := by decide +kernel
theorem d9_58 : decode method_3_code 58 = .ok (.iload_n 2, 1) := by decide +kernel
theorem d9_59 : decode method_3_code 59 = .ok (.sipush 360, 3) := by decide +kernel
theorem d9_62 : decode method_3_code 62 = .ok (.if_icmp .ne 5, 3) := by decide +kernel
theorem d9_65 : decode method_3_code 65 = .ok (.iconst 1, 1) := by decide +kernel
theorem d9_66 : decode method_3_code 66 = .ok (.ireturn, 1) := by decide +kernel
theorem d9_67 : decode method_3_code 67 = .ok (.iconst 0, 1) := by decide +kernel
theorem d9_68 : decode method_3_code 68 = .ok (.ireturn, 1) := by decide +kernel
theorem d9_69 : decode method_3_code 69 = .ok (.iload 4, 2) := by decide +kernel
theorem d9_71 : decode method_3_code 71 = .ok (.iload_n 0, 1) := by decide +kernel
theorem d9_72 : decode method_3_code 72 = .ok (.if_icmp .lt 13, 3) := by decide +kernel
theorem d9_75 : decode method_3_code 75 = .ok (.iload 4, 2) := by decide +kernel
theorem d9_77 : decode method_3_code 77 = .ok (.sipush 360, 3) := by decide +kernel
theorem d9_80 : decode method_3_code 80 = .ok (.if_icmp .gt 5, 3) := by decide +kernel
theorem d9_83 : decode method_3_code 83 = .ok (.iconst 1, 1) := by decide +kernel
theorem d9_84 : decode method_3_code 84 = .ok (.ireturn, 1) := by decide +kernel
theorem d9_85 : decode method_3_code 85 = .ok (.iload 4, 2) := by decide +kernel
theorem d9_87 : decode method_3_code 87 = .ok (.sipush (-360), 3) := by decide +kernel
theorem d9_90 : decode method_3_code 90 = .ok (.if_icmp .lt 11, 3) := by decide +kernel
theorem d9_93 : decode method_3_code 93 = .ok (.iload 4, 2) := by decide +kernel
theorem d9_95 : decode method_3_code 95 = .ok (.iload_n 2, 1) := by decide +kernel
theorem d9_96 : decode method_3_code 96 = .ok (.if_icmp .gt 5, 3) := by decide +kernel
theorem d9_99 : decode method_3_code 99 = .ok (.iconst 1, 1) := by decide +kernel
theorem d9_100 : decode method_3_code 100 = .ok (.ireturn, 1) := by decide +kernel
theorem d9_101 : decode method_3_code 101 = .ok (.iconst 0, 1) := by decide +kernel
theorem d9_102 : decode method_3_code 102 = .ok (.ireturn, 1) := by decide +kernel
theorem pn_9 : plainName "com/example/kvadtree/kvadtree/BoxContainsPinLaw" = true := by first | (simp [plainName, overriddenIn]; done) | decide +kernel
theorem d5_0 : decode prog_9_method_4_code 0 = .ok (.dload_n 1, 1) := by decide +kernel
theorem d5_1 : decode prog_9_method_4_code 1 = .ok (.ldc2_w 44, 3) := by decide +kernel
theorem d5_4 : decode prog_9_method_4_code 4 = .ok (.dcmp .l, 1) := by decide +kernel
theorem d5_5 : decode prog_9_method_4_code 5 = .ok (.ifCond .lt 11, 3) := by decide +kernel
theorem d5_8 : decode prog_9_method_4_code 8 = .ok (.dload_n 1, 1) := by decide +kernel
theorem d5_9 : decode prog_9_method_4_code 9 = .ok (.ldc2_w 46, 3) := by decide +kernel
theorem d5_12 : decode prog_9_method_4_code 12 = .ok (.dcmp .g, 1) := by decide +kernel
theorem d5_13 : decode prog_9_method_4_code 13 = .ok (.ifCond .le 18, 3) := by decide +kernel
theorem d5_31 : decode prog_9_method_4_code 31 = .ok (.return_, 1) := by decide +kernel
theorem pn_5 : plainName "com/example/kvadtree/kvadtree/Coordinates" = true := by first | (simp [plainName, overriddenIn]; done) | decide +kernel
theorem d6_0 : decode prog_9_method_5_code 0 = .ok (.dload_n 1, 1) := by decide +kernel
theorem d6_1 : decode prog_9_method_5_code 1 = .ok (.ldc2_w 51, 3) := by decide +kernel
theorem d6_4 : decode prog_9_method_5_code 4 = .ok (.dcmp .l, 1) := by decide +kernel
theorem d6_5 : decode prog_9_method_5_code 5 = .ok (.ifCond .lt 11, 3) := by decide +kernel
theorem d6_8 : decode prog_9_method_5_code 8 = .ok (.dload_n 1, 1) := by decide +kernel
theorem d6_9 : decode prog_9_method_5_code 9 = .ok (.ldc2_w 53, 3) := by decide +kernel
theorem d6_12 : decode prog_9_method_5_code 12 = .ok (.dcmp .g, 1) := by decide +kernel
theorem d6_13 : decode prog_9_method_5_code 13 = .ok (.ifCond .le 18, 3) := by decide +kernel
theorem d6_31 : decode prog_9_method_5_code 31 = .ok (.return_, 1) := by decide +kernel
theorem d7_0 : decode prog_2_method_9_code 0 = .ok (.dload_n 0, 1) := by decide +kernel
theorem d7_1 : decode prog_2_method_9_code 1 = .ok (.dload_n 2, 1) := by decide +kernel
theorem d7_2 : decode prog_2_method_9_code 2 = .ok (.dcmp .l, 1) := by decide +kernel
theorem d7_3 : decode prog_2_method_9_code 3 = .ok (.ifCond .le 44, 3) := by decide +kernel
theorem d7_6 : decode prog_2_method_9_code 6 = .ok (.iconst 2, 1) := by decide +kernel
theorem d7_7 : decode prog_2_method_9_code 7 = .ok (.anewarray 73, 3) := by decide +kernel
theorem d7_10 : decode prog_2_method_9_code 10 = .ok (.dup, 1) := by decide +kernel
theorem d7_11 : decode prog_2_method_9_code 11 = .ok (.iconst 0, 1) := by decide +kernel
theorem d7_12 : decode prog_2_method_9_code 12 = .ok (.iconst 2, 1) := by decide +kernel
theorem d7_13 : decode prog_2_method_9_code 13 = .ok (.newarray .double, 2) := by decide +kernel
theorem d7_15 : decode prog_2_method_9_code 15 = .ok (.dup, 1) := by decide +kernel
theorem d7_16 : decode prog_2_method_9_code 16 = .ok (.iconst 0, 1) := by decide +kernel
theorem d7_17 : decode prog_2_method_9_code 17 = .ok (.dload_n 0, 1) := by decide +kernel
theorem d7_18 : decode prog_2_method_9_code 18 = .ok (.dastore, 1) := by decide +kernel
theorem d7_19 : decode prog_2_method_9_code 19 = .ok (.dup, 1) := by decide +kernel
theorem d7_20 : decode prog_2_method_9_code 20 = .ok (.iconst 1, 1) := by decide +kernel
theorem d7_21 : decode prog_2_method_9_code 21 = .ok (.ldc2_w 84, 3) := by decide +kernel
theorem d7_24 : decode prog_2_method_9_code 24 = .ok (.dastore, 1) := by decide +kernel
theorem d7_25 : decode prog_2_method_9_code 25 = .ok (.aastore, 1) := by decide +kernel
theorem d7_26 : decode prog_2_method_9_code 26 = .ok (.dup, 1) := by decide +kernel
theorem d7_27 : decode prog_2_method_9_code 27 = .ok (.iconst 1, 1) := by decide +kernel
theorem d7_28 : decode prog_2_method_9_code 28 = .ok (.iconst 2, 1) := by decide +kernel
theorem d7_29 : decode prog_2_method_9_code 29 = .ok (.newarray .double, 2) := by decide +kernel
theorem d7_31 : decode prog_2_method_9_code 31 = .ok (.dup, 1) := by decide +kernel
theorem d7_32 : decode prog_2_method_9_code 32 = .ok (.iconst 0, 1) := by decide +kernel
theorem d7_33 : decode prog_2_method_9_code 33 = .ok (.ldc2_w 86, 3) := by decide +kernel
theorem d7_36 : decode prog_2_method_9_code 36 = .ok (.dastore, 1) := by decide +kernel
theorem d7_37 : decode prog_2_method_9_code 37 = .ok (.dup, 1) := by decide +kernel
theorem d7_38 : decode prog_2_method_9_code 38 = .ok (.iconst 1, 1) := by decide +kernel
theorem d7_39 : decode prog_2_method_9_code 39 = .ok (.dload_n 2, 1) := by decide +kernel
theorem d7_40 : decode prog_2_method_9_code 40 = .ok (.dastore, 1) := by decide +kernel
theorem d7_41 : decode prog_2_method_9_code 41 = .ok (.aastore, 1) := by decide +kernel
theorem d7_42 : decode prog_2_method_9_code 42 = .ok (.astore 4, 2) := by decide +kernel
theorem d7_44 : decode prog_2_method_9_code 44 = .ok (.goto 160, 3) := by decide +kernel
theorem d7_204 : decode prog_2_method_9_code 204 = .ok (.aload 4, 2) := by decide +kernel
theorem d7_206 : decode prog_2_method_9_code 206 = .ok (.areturn, 1) := by decide +kernel
theorem pn_7 : plainName "com/example/kvadtree/kvadtree/Box" = true := by first | (simp [plainName, overriddenIn]; done) | decide +kernel
theorem d7_47 : decode prog_2_method_9_code 47 = .ok (.dload_n 0, 1) := by decide +kernel
theorem d7_48 : decode prog_2_method_9_code 48 = .ok (.ldc2_w 86, 3) := by decide +kernel
theorem d7_51 : decode prog_2_method_9_code 51 = .ok (.dcmp .l, 1) := by decide +kernel
theorem d7_52 : decode prog_2_method_9_code 52 = .ok (.ifCond .ne 34, 3) := by decide +kernel
theorem d7_55 : decode prog_2_method_9_code 55 = .ok (.dload_n 2, 1) := by decide +kernel
theorem d7_56 : decode prog_2_method_9_code 56 = .ok (.ldc2_w 84, 3) := by decide +kernel
theorem d7_59 : decode prog_2_method_9_code 59 = .ok (.dcmp .l, 1) := by decide +kernel
theorem d7_60 : decode prog_2_method_9_code 60 = .ok (.ifCond .ne 26, 3) := by decide +kernel
theorem d7_63 : decode prog_2_method_9_code 63 = .ok (.iconst 1, 1) := by decide +kernel
theorem d7_64 : decode prog_2_method_9_code 64 = .ok (.anewarray 73, 3) := by decide +kernel
theorem d7_67 : decode prog_2_method_9_code 67 = .ok (.dup, 1) := by decide +kernel
theorem d7_68 : decode prog_2_method_9_code 68 = .ok (.iconst 0, 1) := by decide +kernel
theorem d7_69 : decode prog_2_method_9_code 69 = .ok (.iconst 2, 1) := by decide +kernel
theorem d7_70 : decode prog_2_method_9_code 70 = .ok (.newarray .double, 2) := by decide +kernel
theorem d7_72 : decode prog_2_method_9_code 72 = .ok (.dup, 1) := by decide +kernel
theorem d7_73 : decode prog_2_method_9_code 73 = .ok (.iconst 0, 1) := by decide +kernel
theorem d7_74 : decode prog_2_method_9_code 74 = .ok (.dload_n 0, 1) := by decide +kernel
theorem d7_75 : decode prog_2_method_9_code 75 = .ok (.dastore, 1) := by decide +kernel
theorem d7_76 : decode prog_2_method_9_code 76 = .ok (.dup, 1) := by decide +kernel
theorem d7_77 : decode prog_2_method_9_code 77 = .ok (.iconst 1, 1) := by decide +kernel
theorem d7_78 : decode prog_2_method_9_code 78 = .ok (.dload_n 2, 1) := by decide +kernel
theorem d7_79 : decode prog_2_method_9_code 79 = .ok (.dastore, 1) := by decide +kernel
theorem d7_80 : decode prog_2_method_9_code 80 = .ok (.aastore, 1) := by decide +kernel
theorem d7_81 : decode prog_2_method_9_code 81 = .ok (.astore 4, 2) := by decide +kernel
theorem d7_83 : decode prog_2_method_9_code 83 = .ok (.goto 121, 3) := by decide +kernel
theorem d7_86 : decode prog_2_method_9_code 86 = .ok (.dload_n 2, 1) := by decide +kernel
theorem d7_87 : decode prog_2_method_9_code 87 = .ok (.ldc2_w 84, 3) := by decide +kernel
theorem d7_90 : decode prog_2_method_9_code 90 = .ok (.dcmp .l, 1) := by decide +kernel
theorem d7_91 : decode prog_2_method_9_code 91 = .ok (.ifCond .ne 44, 3) := by decide +kernel
theorem d7_94 : decode prog_2_method_9_code 94 = .ok (.iconst 2, 1) := by decide +kernel
theorem d7_95 : decode prog_2_method_9_code 95 = .ok (.anewarray 73, 3) := by decide +kernel
theorem d7_98 : decode prog_2_method_9_code 98 = .ok (.dup, 1) := by decide +kernel
theorem d7_99 : decode prog_2_method_9_code 99 = .ok (.iconst 0, 1) := by decide +kernel
theorem d7_100 : decode prog_2_method_9_code 100 = .ok (.iconst 2, 1) := by decide +kernel
theorem d7_101 : decode prog_2_method_9_code 101 = .ok (.newarray .double, 2) := by decide +kernel
theorem d7_103 : decode prog_2_method_9_code 103 = .ok (.dup, 1) := by decide +kernel
theorem d7_104 : decode prog_2_method_9_code 104 = .ok (.iconst 0, 1) := by decide +kernel
theorem d7_105 : decode prog_2_method_9_code 105 = .ok (.dload_n 0, 1) := by decide +kernel
theorem d7_106 : decode prog_2_method_9_code 106 = .ok (.dastore, 1) := by decide +kernel
theorem d7_107 : decode prog_2_method_9_code 107 = .ok (.dup, 1) := by decide +kernel
theorem d7_108 : decode prog_2_method_9_code 108 = .ok (.iconst 1, 1) := by decide +kernel
theorem d7_109 : decode prog_2_method_9_code 109 = .ok (.dload_n 2, 1) := by decide +kernel
theorem d7_110 : decode prog_2_method_9_code 110 = .ok (.dastore, 1) := by decide +kernel
theorem d7_111 : decode prog_2_method_9_code 111 = .ok (.aastore, 1) := by decide +kernel
theorem d7_112 : decode prog_2_method_9_code 112 = .ok (.dup, 1) := by decide +kernel
theorem d7_113 : decode prog_2_method_9_code 113 = .ok (.iconst 1, 1) := by decide +kernel
theorem d7_114 : decode prog_2_method_9_code 114 = .ok (.iconst 2, 1) := by decide +kernel
theorem d7_115 : decode prog_2_method_9_code 115 = .ok (.newarray .double, 2) := by decide +kernel
theorem d7_117 : decode prog_2_method_9_code 117 = .ok (.dup, 1) := by decide +kernel
theorem d7_118 : decode prog_2_method_9_code 118 = .ok (.iconst 0, 1) := by decide +kernel
theorem d7_119 : decode prog_2_method_9_code 119 = .ok (.ldc2_w 86, 3) := by decide +kernel
theorem d7_122 : decode prog_2_method_9_code 122 = .ok (.dastore, 1) := by decide +kernel
theorem d7_123 : decode prog_2_method_9_code 123 = .ok (.dup, 1) := by decide +kernel
theorem d7_124 : decode prog_2_method_9_code 124 = .ok (.iconst 1, 1) := by decide +kernel
theorem d7_125 : decode prog_2_method_9_code 125 = .ok (.ldc2_w 86, 3) := by decide +kernel
theorem d7_128 : decode prog_2_method_9_code 128 = .ok (.dastore, 1) := by decide +kernel
theorem d7_129 : decode prog_2_method_9_code 129 = .ok (.aastore, 1) := by decide +kernel
theorem d7_130 : decode prog_2_method_9_code 130 = .ok (.astore 4, 2) := by decide +kernel
theorem d7_132 : decode prog_2_method_9_code 132 = .ok (.goto 72, 3) := by decide +kernel
theorem d7_135 : decode prog_2_method_9_code 135 = .ok (.dload_n 0, 1) := by decide +kernel
theorem d7_136 : decode prog_2_method_9_code 136 = .ok (.ldc2_w 86, 3) := by decide +kernel
theorem d7_139 : decode prog_2_method_9_code 139 = .ok (.dcmp .l, 1) := by decide +kernel
theorem d7_140 : decode prog_2_method_9_code 140 = .ok (.ifCond .ne 44, 3) := by decide +kernel
theorem d7_143 : decode prog_2_method_9_code 143 = .ok (.iconst 2, 1) := by decide +kernel
theorem d7_144 : decode prog_2_method_9_code 144 = .ok (.anewarray 73, 3) := by decide +kernel
theorem d7_147 : decode prog_2_method_9_code 147 = .ok (.dup, 1) := by decide +kernel
theorem d7_148 : decode prog_2_method_9_code 148 = .ok (.iconst 0, 1) := by decide +kernel
theorem d7_149 : decode prog_2_method_9_code 149 = .ok (.iconst 2, 1) := by decide +kernel
theorem d7_150 : decode prog_2_method_9_code 150 = .ok (.newarray .double, 2) := by decide +kernel
theorem d7_152 : decode prog_2_method_9_code 152 = .ok (.dup, 1) := by decide +kernel
theorem d7_153 : decode prog_2_method_9_code 153 = .ok (.iconst 0, 1) := by decide +kernel
theorem d7_154 : decode prog_2_method_9_code 154 = .ok (.dload_n 0, 1) := by decide +kernel
theorem d7_155 : decode prog_2_method_9_code 155 = .ok (.dastore, 1) := by decide +kernel
theorem d7_156 : decode prog_2_method_9_code 156 = .ok (.dup, 1) := by decide +kernel
theorem d7_157 : decode prog_2_method_9_code 157 = .ok (.iconst 1, 1) := by decide +kernel
theorem d7_158 : decode prog_2_method_9_code 158 = .ok (.dload_n 2, 1) := by decide +kernel
theorem d7_159 : decode prog_2_method_9_code 159 = .ok (.dastore, 1) := by decide +kernel
theorem d7_160 : decode prog_2_method_9_code 160 = .ok (.aastore, 1) := by decide +kernel
theorem d7_161 : decode prog_2_method_9_code 161 = .ok (.dup, 1) := by decide +kernel
theorem d7_162 : decode prog_2_method_9_code 162 = .ok (.iconst 1, 1) := by decide +kernel
theorem d7_163 : decode prog_2_method_9_code 163 = .ok (.iconst 2, 1) := by decide +kernel
theorem d7_164 : decode prog_2_method_9_code 164 = .ok (.newarray .double, 2) := by decide +kernel
theorem d7_166 : decode prog_2_method_9_code 166 = .ok (.dup, 1) := by decide +kernel
theorem d7_167 : decode prog_2_method_9_code 167 = .ok (.iconst 0, 1) := by decide +kernel
theorem d7_168 : decode prog_2_method_9_code 168 = .ok (.ldc2_w 84, 3) := by decide +kernel
theorem d7_171 : decode prog_2_method_9_code 171 = .ok (.dastore, 1) := by decide +kernel
theorem d7_172 : decode prog_2_method_9_code 172 = .ok (.dup, 1) := by decide +kernel
theorem d7_173 : decode prog_2_method_9_code 173 = .ok (.iconst 1, 1) := by decide +kernel
theorem d7_174 : decode prog_2_method_9_code 174 = .ok (.ldc2_w 84, 3) := by decide +kernel
theorem d7_177 : decode prog_2_method_9_code 177 = .ok (.dastore, 1) := by decide +kernel
theorem d7_178 : decode prog_2_method_9_code 178 = .ok (.aastore, 1) := by decide +kernel
theorem d7_179 : decode prog_2_method_9_code 179 = .ok (.astore 4, 2) := by decide +kernel
theorem d7_181 : decode prog_2_method_9_code 181 = .ok (.goto 23, 3) := by decide +kernel
theorem d7_184 : decode prog_2_method_9_code 184 = .ok (.iconst 1, 1) := by decide +kernel
theorem d7_185 : decode prog_2_method_9_code 185 = .ok (.anewarray 73, 3) := by decide +kernel
theorem d7_188 : decode prog_2_method_9_code 188 = .ok (.dup, 1) := by decide +kernel
theorem d7_189 : decode prog_2_method_9_code 189 = .ok (.iconst 0, 1) := by decide +kernel
theorem d7_190 : decode prog_2_method_9_code 190 = .ok (.iconst 2, 1) := by decide +kernel
theorem d7_191 : decode prog_2_method_9_code 191 = .ok (.newarray .double, 2) := by decide +kernel
theorem d7_193 : decode prog_2_method_9_code 193 = .ok (.dup, 1) := by decide +kernel
theorem d7_194 : decode prog_2_method_9_code 194 = .ok (.iconst 0, 1) := by decide +kernel
theorem d7_195 : decode prog_2_method_9_code 195 = .ok (.dload_n 0, 1) := by decide +kernel
theorem d7_196 : decode prog_2_method_9_code 196 = .ok (.dastore, 1) := by decide +kernel
theorem d7_197 : decode prog_2_method_9_code 197 = .ok (.dup, 1) := by decide +kernel
theorem d7_198 : decode prog_2_method_9_code 198 = .ok (.iconst 1, 1) := by decide +kernel
theorem d7_199 : decode prog_2_method_9_code 199 = .ok (.dload_n 2, 1) := by decide +kernel
theorem d7_200 : decode prog_2_method_9_code 200 = .ok (.dastore, 1) := by decide +kernel
theorem d7_201 : decode prog_2_method_9_code 201 = .ok (.aastore, 1) := by decide +kernel
theorem d7_202 : decode prog_2_method_9_code 202 = .ok (.astore 4, 2) := by decide +kernel
theorem d3_0 : decode prog_2_method_1_code 0 = .ok (.aload_n 0, 1) := by decide +kernel
theorem d3_1 : decode prog_2_method_1_code 1 = .ok (.invokespecial 1, 3) := by decide +kernel
theorem d3_4 : decode prog_2_method_1_code 4 = .ok (.ldc 7, 2) := by decide +kernel
theorem d3_6 : decode prog_2_method_1_code 6 = .ok (.dload_n 1, 1) := by decide +kernel
theorem d3_7 : decode prog_2_method_1_code 7 = .ok (.invokestatic 9, 3) := by decide +kernel
theorem d3_10 : decode prog_2_method_1_code 10 = .ok (.ldc 15, 2) := by decide +kernel
theorem d3_12 : decode prog_2_method_1_code 12 = .ok (.dload_n 3, 1) := by decide +kernel
theorem d3_13 : decode prog_2_method_1_code 13 = .ok (.invokestatic 17, 3) := by decide +kernel
theorem d3_16 : decode prog_2_method_1_code 16 = .ok (.ldc 20, 2) := by decide +kernel
theorem d3_18 : decode prog_2_method_1_code 18 = .ok (.dload 5, 2) := by decide +kernel
theorem d3_20 : decode prog_2_method_1_code 20 = .ok (.invokestatic 9, 3) := by decide +kernel
theorem d3_23 : decode prog_2_method_1_code 23 = .ok (.ldc 22, 2) := by decide +kernel
theorem d3_25 : decode prog_2_method_1_code 25 = .ok (.dload 7, 2) := by decide +kernel
theorem d3_27 : decode prog_2_method_1_code 27 = .ok (.invokestatic 17, 3) := by decide +kernel
theorem d3_30 : decode prog_2_method_1_code 30 = .ok (.dload_n 3, 1) := by decide +kernel
theorem d3_31 : decode prog_2_method_1_code 31 = .ok (.dload 7, 2) := by decide +kernel
theorem d3_33 : decode prog_2_method_1_code 33 = .ok (.dcmp .l, 1) := by decide +kernel
theorem d3_34 : decode prog_2_method_1_code 34 = .ok (.ifCond .le 19, 3) := by decide +kernel
theorem d3_53 : decode prog_2_method_1_code 53 = .ok (.aload_n 0, 1) := by decide +kernel
theorem d3_54 : decode prog_2_method_1_code 54 = .ok (.dload_n 1, 1) := by decide +kernel
theorem d3_55 : decode prog_2_method_1_code 55 = .ok (.putfield 33, 3) := by decide +kernel
theorem d3_58 : decode prog_2_method_1_code 58 = .ok (.aload_n 0, 1) := by decide +kernel
theorem d3_59 : decode prog_2_method_1_code 59 = .ok (.dload_n 3, 1) := by decide +kernel
theorem d3_60 : decode prog_2_method_1_code 60 = .ok (.putfield 38, 3) := by decide +kernel
theorem d3_63 : decode prog_2_method_1_code 63 = .ok (.aload_n 0, 1) := by decide +kernel
theorem d3_64 : decode prog_2_method_1_code 64 = .ok (.dload 5, 2) := by decide +kernel
theorem d3_66 : decode prog_2_method_1_code 66 = .ok (.putfield 40, 3) := by decide +kernel
theorem d3_69 : decode prog_2_method_1_code 69 = .ok (.aload_n 0, 1) := by decide +kernel
theorem d3_70 : decode prog_2_method_1_code 70 = .ok (.dload 7, 2) := by decide +kernel
theorem d3_72 : decode prog_2_method_1_code 72 = .ok (.putfield 42, 3) := by decide +kernel
theorem d3_75 : decode prog_2_method_1_code 75 = .ok (.aload_n 0, 1) := by decide +kernel
theorem d3_76 : decode prog_2_method_1_code 76 = .ok (.dload_n 1, 1) := by decide +kernel
theorem d3_77 : decode prog_2_method_1_code 77 = .ok (.dload 5, 2) := by decide +kernel
theorem d3_79 : decode prog_2_method_1_code 79 = .ok (.invokestatic 44, 3) := by decide +kernel
theorem d3_82 : decode prog_2_method_1_code 82 = .ok (.putfield 48, 3) := by decide +kernel
theorem d3_85 : decode prog_2_method_1_code 85 = .ok (.return_, 1) := by decide +kernel
theorem pd_6 : parseMethodDescriptor "(Ljava/lang/String;D)V" = some ⟨[(.object "java/lang/String"), .double], none⟩ := by decide +kernel
theorem pd_2 : parseMethodDescriptor "(DD)[[D" = some ⟨[.double, .double], some (.array (.array .double))⟩ := by decide +kernel
theorem d8_0 : decode prog_2_method_8_code 0 = .ok (.dload_n 3, 1) := by decide +kernel
theorem d8_1 : decode prog_2_method_8_code 1 = .ok (.aload_n 0, 1) := by decide +kernel
theorem d8_2 : decode prog_2_method_8_code 2 = .ok (.getfield 38, 3) := by decide +kernel
theorem d8_5 : decode prog_2_method_8_code 5 = .ok (.dcmp .l, 1) := by decide +kernel
theorem d8_6 : decode prog_2_method_8_code 6 = .ok (.ifCond .lt 12, 3) := by decide +kernel
theorem d8_9 : decode prog_2_method_8_code 9 = .ok (.dload_n 3, 1) := by decide +kernel
theorem d8_10 : decode prog_2_method_8_code 10 = .ok (.aload_n 0, 1) := by decide +kernel
theorem d8_11 : decode prog_2_method_8_code 11 = .ok (.getfield 42, 3) := by decide +kernel
theorem d8_14 : decode prog_2_method_8_code 14 = .ok (.dcmp .g, 1) := by decide +kernel
theorem d8_15 : decode prog_2_method_8_code 15 = .ok (.ifCond .le 5, 3) := by decide +kernel
theorem d8_18 : decode prog_2_method_8_code 18 = .ok (.iconst 0, 1) := by decide +kernel
theorem d8_19 : decode prog_2_method_8_code 19 = .ok (.ireturn, 1) := by decide +kernel
theorem d8_20 : decode prog_2_method_8_code 20 = .ok (.aload_n 0, 1) := by decide +kernel
theorem d8_21 : decode prog_2_method_8_code 21 = .ok (.getfield 48, 3) := by decide +kernel
theorem d8_24 : decode prog_2_method_8_code 24 = .ok (.astore 5, 2) := by decide +kernel
theorem d8_26 : decode prog_2_method_8_code 26 = .ok (.aload 5, 2) := by decide +kernel
theorem d8_28 : decode prog_2_method_8_code 28 = .ok (.arraylength, 1) := by decide +kernel
theorem d8_29 : decode prog_2_method_8_code 29 = .ok (.istore 6, 2) := by decide +kernel
theorem d8_31 : decode prog_2_method_8_code 31 = .ok (.iconst 0, 1) := by decide +kernel
theorem d8_32 : decode prog_2_method_8_code 32 = .ok (.istore 7, 2) := by decide +kernel
theorem d8_34 : decode prog_2_method_8_code 34 = .ok (.iload 7, 2) := by decide +kernel
theorem d8_36 : decode prog_2_method_8_code 36 = .ok (.iload 6, 2) := by decide +kernel
theorem d8_38 : decode prog_2_method_8_code 38 = .ok (.if_icmp .ge 36, 3) := by decide +kernel
theorem d8_41 : decode prog_2_method_8_code 41 = .ok (.aload 5, 2) := by decide +kernel
theorem d8_43 : decode prog_2_method_8_code 43 = .ok (.iload 7, 2) := by decide +kernel
theorem d8_45 : decode prog_2_method_8_code 45 = .ok (.aaload, 1) := by decide +kernel
theorem d8_46 : decode prog_2_method_8_code 46 = .ok (.astore 8, 2) := by decide +kernel
theorem d8_48 : decode prog_2_method_8_code 48 = .ok (.dload_n 1, 1) := by decide +kernel
theorem d8_49 : decode prog_2_method_8_code 49 = .ok (.aload 8, 2) := by decide +kernel
theorem d8_51 : decode prog_2_method_8_code 51 = .ok (.iconst 0, 1) := by decide +kernel
theorem d8_52 : decode prog_2_method_8_code 52 = .ok (.daload, 1) := by decide +kernel
theorem d8_53 : decode prog_2_method_8_code 53 = .ok (.dcmp .l, 1) := by decide +kernel
theorem d8_54 : decode prog_2_method_8_code 54 = .ok (.ifCond .lt 14, 3) := by decide +kernel
theorem d8_57 : decode prog_2_method_8_code 57 = .ok (.dload_n 1, 1) := by decide +kernel
theorem d8_58 : decode prog_2_method_8_code 58 = .ok (.aload 8, 2) := by decide +kernel
theorem d8_60 : decode prog_2_method_8_code 60 = .ok (.iconst 1, 1) := by decide +kernel
theorem d8_61 : decode prog_2_method_8_code 61 = .ok (.daload, 1) := by decide +kernel
theorem d8_62 : decode prog_2_method_8_code 62 = .ok (.dcmp .g, 1) := by decide +kernel
theorem d8_63 : decode prog_2_method_8_code 63 = .ok (.ifCond .gt 5, 3) := by decide +kernel
theorem d8_66 : decode prog_2_method_8_code 66 = .ok (.iconst 1, 1) := by decide +kernel
theorem d8_67 : decode prog_2_method_8_code 67 = .ok (.ireturn, 1) := by decide +kernel
theorem d8_68 : decode prog_2_method_8_code 68 = .ok (.iinc 7 1, 3) := by decide +kernel
theorem d8_71 : decode prog_2_method_8_code 71 = .ok (.goto (-37), 3) := by decide +kernel
theorem d8_74 : decode prog_2_method_8_code 74 = .ok (.iconst 0, 1) := by decide +kernel
theorem d8_75 : decode prog_2_method_8_code 75 = .ok (.ireturn, 1) := by decide +kernel
theorem pd_4 : parseMethodDescriptor "(II)I" = some ⟨[.int, .int], some .int⟩ := by decide +kernel
theorem pd_3 : parseMethodDescriptor "(DDDD)V" = some ⟨[.double, .double, .double, .double], none⟩ := by decide +kernel
theorem pd_1 : parseMethodDescriptor "(DD)Z" = some ⟨[.double, .double], some .boolean⟩ := by decide +kernel
theorem pd_5 : parseMethodDescriptor "(IIIIII)Z" = some ⟨[.int, .int, .int, .int, .int, .int], some .boolean⟩ := by decide +kernel
theorem own_wS {Z : State} {a0 : Array Value} (hw : ∀ d ∈ tables_1, d.before a0 Z = true) : ∀ a ∈ Bundle.stringAtoms, a.before a0 Z = true := fun d hd => by
  simp only [Bundle.stringAtoms, List.mem_cons, List.not_mem_nil, or_false] at hd
  rcases hd with rfl | rfl | rfl | rfl | rfl | rfl | rfl
  · exact (hw _ (List.mem_of_getElem? (i := 18) rfl))
  · exact (hw _ (List.mem_of_getElem? (i := 19) rfl))
  · exact (hw _ (List.mem_of_getElem? (i := 20) rfl))
  · exact (hw _ (List.mem_of_getElem? (i := 21) rfl))
  · exact (hw _ (List.mem_of_getElem? (i := 22) rfl))
  · exact (hw _ (List.mem_of_getElem? (i := 23) rfl))
  · exact (hw _ (List.mem_of_getElem? (i := 24) rfl))
theorem own_k40 : (13863909240395005952 : UInt64) = own_h 40 := by decide +kernel
theorem own_k760 : (4640537203540230144 : UInt64) = own_h 760 := by decide +kernel
theorem own_k220 : (13859405640767635456 : UInt64) = own_h 220 := by decide +kernel
theorem own_k580 : (4636033603912859648 : UInt64) = own_h 580 := by decide +kernel
theorem own_k404 : (4611686018427387904 : UInt64) = own_h 404 := by decide +kernel
theorem own_h400 : own_h 400 = 0 := by decide +kernel
def own_w (x : Int32) : Nat := (2 * x.toInt + 400).toNat
def own_l (x : Int32) : Nat := (x.toInt + 400).toNat
theorem own_i2 (x : Int32) (q : -180 ≤ x.toInt ∧ x.toInt ≤ 180) : FP.i2d x = own_h (own_w x) := by
  have u := own_even (x.toInt + 180).toNat (by omega)
  have e1 : (((x.toInt + 180).toNat : Nat) : Int) - 180 = x.toInt := by omega
  have e2 : 2 * (x.toInt + 180).toNat + 40 = own_w x := by unfold own_w; omega
  rw [e1, e2, Int32.ofInt_toInt] at u
  exact u
theorem own_di (x : Int32) (q : -400 ≤ x.toInt ∧ x.toInt ≤ 400) : FP.ddiv (FP.i2d x) (own_h 404) = own_h (own_l x) := by
  have e1 : ((own_l x : Nat) : Int) - 400 = x.toInt := by unfold own_l; omega
  show FP.ddiv (FP.i2d x) (own_h 404) = FP.ddiv (FP.i2d (Int32.ofInt (((own_l x : Nat) : Int) - 400))) 4611686018427387904
  rw [e1, Int32.ofInt_toInt, own_k404]
theorem own_wb {x : Int32} (q : -180 ≤ x.toInt ∧ x.toInt ≤ 180) : own_w x < 801 := by unfold own_w; omega
theorem own_lb {x : Int32} (q : -400 ≤ x.toInt ∧ x.toInt ≤ 400) : own_l x < 801 := by unfold own_l; omega
theorem ef_1 (p1 : Int32) (p2 : Int32) (m : MethodId) : entryFrame m #[(.int p1), (.int p2)] 2 = mkF m 0 #[.val (.int p1), .val (.int p2)] [] := by first | (simp [entryFrame, mkF, argsToLocals, Value.category]; done) | rfl
def f1 (p1 : Int32) (p2 : Int32) : Int32 := (if p2 < p1 then p2 else p1)
def Q1 (Z : State) (p1 : Int32) (p2 : Int32) (h0 : Heap) (n0 : Nat) (v : Option Value) (h : Heap) (L : List Loc) : Prop := v = some (.int (f1 p1 p2)) ∧ Fr n0 L ∧ h = h0
set_option maxRecDepth 65536 in
set_option maxHeartbeats 40000000 in
theorem rm1 (l : Launch) (Z : State) (a0 : Array Value) (hw : ∀ d ∈ tables_1, d.before a0 Z = true) (p1 : Int32) (p2 : Int32) (h0 : Heap) (n0 : Nat) (Zs : n0 ≤ h0.size) :
    Met1 l Z (⟨"java/lang/Math", "min", "(II)I"⟩ : MethodName) jdk_29_method_69_code 2 (some .int) ({ frames := 0, cells := 0, slots := 0, locals := 0 } : Room) #[(.int p1), (.int p2)] h0 (Q1 Z p1 p2 h0 n0) := by
  refine own_met_of (Jvm.Free.JP.mathPlain rfl (by decide +kernel)) (ef_1 p1 p2) ?_
  intro p e s m below meth c s₁ X hx hby hml hZ hown hnm hret hlk eT
  have hown : s.vm.findClass "java/lang/Math" = some m.cls := hown
  have N := Fr.nil n0
  refine own_iloadN X hx hby p1 d1_0 rfl 1 rfl ?_
  refine own_iloadN X hx hby p2 d1_1 rfl 2 rfl ?_
  refine own_icmp_gt X hx hby d1_2 9 5 (by decide) rfl (fun c2 => ?_) (fun c2 => ?_)
  · skip
    refine own_iloadN X hx hby p2 d1_9 rfl 10 rfl ?_
    refine own_retI X hx hby hret hlk d1_10 (by decide) (by decide) ?_
    rw [eT]
    exact ⟨congrArg (fun z => some (Value.int z)) (by unfold f1; rw [if_pos c2]), N, rfl⟩
  · skip
    refine own_iloadN X hx hby p1 d1_5 rfl 6 rfl ?_
    refine own_goto X hx hby d1_6 10 (by decide) ?_
    refine own_retI X hx hby hret hlk d1_10 (by decide) (by decide) ?_
    rw [eT]
    exact ⟨congrArg (fun z => some (Value.int z)) (by unfold f1; rw [if_neg c2]), N, rfl⟩
theorem ef_2 (p1 : Int32) (p2 : Int32) (m : MethodId) : entryFrame m #[(.int p1), (.int p2)] 2 = mkF m 0 #[.val (.int p1), .val (.int p2)] [] := by first | (simp [entryFrame, mkF, argsToLocals, Value.category]; done) | rfl
def f2 (p1 : Int32) (p2 : Int32) : Int32 := (if p1 < p2 then p2 else p1)
def Q2 (Z : State) (p1 : Int32) (p2 : Int32) (h0 : Heap) (n0 : Nat) (v : Option Value) (h : Heap) (L : List Loc) : Prop := v = some (.int (f2 p1 p2)) ∧ Fr n0 L ∧ h = h0
set_option maxRecDepth 65536 in
set_option maxHeartbeats 40000000 in
theorem rm2 (l : Launch) (Z : State) (a0 : Array Value) (hw : ∀ d ∈ tables_1, d.before a0 Z = true) (p1 : Int32) (p2 : Int32) (h0 : Heap) (n0 : Nat) (Zs : n0 ≤ h0.size) :
    Met1 l Z (⟨"java/lang/Math", "max", "(II)I"⟩ : MethodName) jdk_29_method_65_code 2 (some .int) ({ frames := 0, cells := 0, slots := 0, locals := 0 } : Room) #[(.int p1), (.int p2)] h0 (Q2 Z p1 p2 h0 n0) := by
  refine own_met_of (Jvm.Free.JP.mathPlain rfl (by decide +kernel)) (ef_2 p1 p2) ?_
  intro p e s m below meth c s₁ X hx hby hml hZ hown hnm hret hlk eT
  have hown : s.vm.findClass "java/lang/Math" = some m.cls := hown
  have N := Fr.nil n0
  refine own_iloadN X hx hby p1 d2_0 rfl 1 rfl ?_
  refine own_iloadN X hx hby p2 d2_1 rfl 2 rfl ?_
  refine own_icmp_lt X hx hby d2_2 9 5 (by decide) rfl (fun c2 => ?_) (fun c2 => ?_)
  · skip
    refine own_iloadN X hx hby p2 d2_9 rfl 10 rfl ?_
    refine own_retI X hx hby hret hlk d2_10 (by decide) (by decide) ?_
    rw [eT]
    exact ⟨congrArg (fun z => some (Value.int z)) (by unfold f2; rw [if_pos c2]), N, rfl⟩
  · skip
    refine own_iloadN X hx hby p1 d2_5 rfl 6 rfl ?_
    refine own_goto X hx hby d2_6 10 (by decide) ?_
    refine own_retI X hx hby hret hlk d2_10 (by decide) (by decide) ?_
    rw [eT]
    exact ⟨congrArg (fun z => some (Value.int z)) (by unfold f2; rw [if_neg c2]), N, rfl⟩
theorem ef_9 (p1 : Int32) (p2 : Int32) (p3 : Int32) (p4 : Int32) (p5 : Int32) (p6 : Int32) (m : MethodId) : entryFrame m #[(.int p1), (.int p2), (.int p3), (.int p4), (.int p5), (.int p6)] 6 = mkF m 0 #[.val (.int p1), .val (.int p2), .val (.int p3), .val (.int p4), .val (.int p5), .val (.int p6)] [] := by first | (simp [entryFrame, mkF, argsToLocals, Value.category]; done) | rfl
def f9 (p1 : Int32) (p2 : Int32) (p3 : Int32) (p4 : Int32) (p5 : Int32) (p6 : Int32) : Int32 := (if p6 < p2 then (0 : Int32) else (if p4 < p6 then (0 : Int32) else (if p3 < p1 then (if p5 < p1 then (if p5 < (-360 : Int32) then (0 : Int32) else (if p3 < p5 then (0 : Int32) else (1 : Int32))) else (if (360 : Int32) < p5 then (if p5 < (-360 : Int32) then (0 : Int32) else (if p3 < p5 then (0 : Int32) else (1 : Int32))) else (1 : Int32))) else (if p5 < p1 then (if p5 = (360 : Int32) then (if p1 = (-360 : Int32) then (1 : Int32) else (if p5 = (-360 : Int32) then (if p3 = (360 : Int32) then (1 : Int32) else (0 : Int32)) else (0 : Int32))) else (if p5 = (-360 : Int32) then (if p3 = (360 : Int32) then (1 : Int32) else (0 : Int32)) else (0 : Int32))) else (if p3 < p5 then (if p5 = (360 : Int32) then (if p1 = (-360 : Int32) then (1 : Int32) else (if p5 = (-360 : Int32) then (if p3 = (360 : Int32) then (1 : Int32) else (0 : Int32)) else (0 : Int32))) else (if p5 = (-360 : Int32) then (if p3 = (360 : Int32) then (1 : Int32) else (0 : Int32)) else (0 : Int32))) else (1 : Int32))))))
def Q9 (Z : State) (p1 : Int32) (p2 : Int32) (p3 : Int32) (p4 : Int32) (p5 : Int32) (p6 : Int32) (h0 : Heap) (n0 : Nat) (v : Option Value) (h : Heap) (L : List Loc) : Prop := v = some (.int (f9 p1 p2 p3 p4 p5 p6)) ∧ Fr n0 L ∧ h = h0
set_option maxRecDepth 65536 in
set_option maxHeartbeats 40000000 in
theorem rm9 (l : Launch) (Z : State) (a0 : Array Value) (hw : ∀ d ∈ tables_1, d.before a0 Z = true) (p1 : Int32) (p2 : Int32) (p3 : Int32) (p4 : Int32) (p5 : Int32) (p6 : Int32) (h0 : Heap) (n0 : Nat) (Zs : n0 ≤ h0.size) :
    Met1 l Z (⟨"com/example/kvadtree/kvadtree/BoxContainsPinLaw", "expected", "(IIIIII)Z"⟩ : MethodName) method_3_code 6 (some .boolean) ({ frames := 0, cells := 0, slots := 0, locals := 0 } : Room) #[(.int p1), (.int p2), (.int p3), (.int p4), (.int p5), (.int p6)] h0 (Q9 Z p1 p2 p3 p4 p5 p6 h0 n0) := by
  refine own_met_of (plainFor_of_name pn_9) (ef_9 p1 p2 p3 p4 p5 p6) ?_
  intro p e s m below meth c s₁ X hx hby hml hZ hown hnm hret hlk eT
  have hown : s.vm.findClass "com/example/kvadtree/kvadtree/BoxContainsPinLaw" = some m.cls := hown
  have N := Fr.nil n0
  refine own_iload X hx hby p6 d9_0 rfl 2 rfl ?_
  refine own_iloadN X hx hby p2 d9_2 rfl 3 rfl ?_
  refine own_icmp_lt X hx hby d9_3 12 6 (by decide) rfl (fun c3 => ?_) (fun c3 => ?_)
  · skip
    refine own_iconst X hx hby (0 : Int32) d9_12 rfl 13 rfl ?_
    refine own_retN X hx hby hret hlk (t := .boolean) (z' := (0 : Int32)) (by simp) d9_13 (by decide) (by decide) rfl ?_
    rw [eT]
    exact ⟨congrArg (fun z => some (Value.int z)) (by unfold f9; rw [if_pos c3]), N, rfl⟩
  · skip
    refine own_iload X hx hby p6 d9_6 rfl 8 rfl ?_
    refine own_iloadN X hx hby p4 d9_8 rfl 9 rfl ?_
    refine own_icmp_le X hx hby d9_9 14 12 (by decide) rfl (fun c9 => ?_) (fun c9 => ?_)
    · skip
      refine own_iloadN X hx hby p1 d9_14 rfl 15 rfl ?_
      refine own_iloadN X hx hby p3 d9_15 rfl 16 rfl ?_
      refine own_icmp_gt X hx hby d9_16 69 19 (by decide) rfl (fun c16 => ?_) (fun c16 => ?_)
      · skip
        refine own_iload X hx hby p5 d9_69 rfl 71 rfl ?_
        refine own_iloadN X hx hby p1 d9_71 rfl 72 rfl ?_
        refine own_icmp_lt X hx hby d9_72 85 75 (by decide) rfl (fun c72 => ?_) (fun c72 => ?_)
        · skip
          refine own_iload X hx hby p5 d9_85 rfl 87 rfl ?_
          refine own_sipush X hx hby (-360 : Int32) d9_87 rfl 90 rfl ?_
          refine own_icmp_lt X hx hby d9_90 101 93 (by decide) rfl (fun c90 => ?_) (fun c90 => ?_)
          · skip
            refine own_iconst X hx hby (0 : Int32) d9_101 rfl 102 rfl ?_
            refine own_retN X hx hby hret hlk (t := .boolean) (z' := (0 : Int32)) (by simp) d9_102 (by decide) (by decide) rfl ?_
            rw [eT]
            exact ⟨congrArg (fun z => some (Value.int z)) (by unfold f9; rw [if_neg c3, if_neg c9, if_pos c16, if_pos c72, if_pos c90]), N, rfl⟩
          · skip
            refine own_iload X hx hby p5 d9_93 rfl 95 rfl ?_
            refine own_iloadN X hx hby p3 d9_95 rfl 96 rfl ?_
            refine own_icmp_gt X hx hby d9_96 101 99 (by decide) rfl (fun c96 => ?_) (fun c96 => ?_)
            · skip
              refine own_iconst X hx hby (0 : Int32) d9_101 rfl 102 rfl ?_
              refine own_retN X hx hby hret hlk (t := .boolean) (z' := (0 : Int32)) (by simp) d9_102 (by decide) (by decide) rfl ?_
              rw [eT]
              exact ⟨congrArg (fun z => some (Value.int z)) (by unfold f9; rw [if_neg c3, if_neg c9, if_pos c16, if_pos c72, if_neg c90, if_pos c96]), N, rfl⟩
            · skip
              refine own_iconst X hx hby (1 : Int32) d9_99 rfl 100 rfl ?_
              refine own_retN X hx hby hret hlk (t := .boolean) (z' := (1 : Int32)) (by simp) d9_100 (by decide) (by decide) rfl ?_
              rw [eT]
              exact ⟨congrArg (fun z => some (Value.int z)) (by unfold f9; rw [if_neg c3, if_neg c9, if_pos c16, if_pos c72, if_neg c90, if_neg c96]), N, rfl⟩
        · skip
          refine own_iload X hx hby p5 d9_75 rfl 77 rfl ?_
          refine own_sipush X hx hby (360 : Int32) d9_77 rfl 80 rfl ?_
          refine own_icmp_gt X hx hby d9_80 85 83 (by decide) rfl (fun c80 => ?_) (fun c80 => ?_)
          · skip
            refine own_iload X hx hby p5 d9_85 rfl 87 rfl ?_
            refine own_sipush X hx hby (-360 : Int32) d9_87 rfl 90 rfl ?_
            refine own_icmp_lt X hx hby d9_90 101 93 (by decide) rfl (fun c90 => ?_) (fun c90 => ?_)
            · skip
              refine own_iconst X hx hby (0 : Int32) d9_101 rfl 102 rfl ?_
              refine own_retN X hx hby hret hlk (t := .boolean) (z' := (0 : Int32)) (by simp) d9_102 (by decide) (by decide) rfl ?_
              rw [eT]
              exact ⟨congrArg (fun z => some (Value.int z)) (by unfold f9; rw [if_neg c3, if_neg c9, if_pos c16, if_neg c72, if_pos c80, if_pos c90]), N, rfl⟩
            · skip
              refine own_iload X hx hby p5 d9_93 rfl 95 rfl ?_
              refine own_iloadN X hx hby p3 d9_95 rfl 96 rfl ?_
              refine own_icmp_gt X hx hby d9_96 101 99 (by decide) rfl (fun c96 => ?_) (fun c96 => ?_)
              · skip
                refine own_iconst X hx hby (0 : Int32) d9_101 rfl 102 rfl ?_
                refine own_retN X hx hby hret hlk (t := .boolean) (z' := (0 : Int32)) (by simp) d9_102 (by decide) (by decide) rfl ?_
                rw [eT]
                exact ⟨congrArg (fun z => some (Value.int z)) (by unfold f9; rw [if_neg c3, if_neg c9, if_pos c16, if_neg c72, if_pos c80, if_neg c90, if_pos c96]), N, rfl⟩
              · skip
                refine own_iconst X hx hby (1 : Int32) d9_99 rfl 100 rfl ?_
                refine own_retN X hx hby hret hlk (t := .boolean) (z' := (1 : Int32)) (by simp) d9_100 (by decide) (by decide) rfl ?_
                rw [eT]
                exact ⟨congrArg (fun z => some (Value.int z)) (by unfold f9; rw [if_neg c3, if_neg c9, if_pos c16, if_neg c72, if_pos c80, if_neg c90, if_neg c96]), N, rfl⟩
          · skip
            refine own_iconst X hx hby (1 : Int32) d9_83 rfl 84 rfl ?_
            refine own_retN X hx hby hret hlk (t := .boolean) (z' := (1 : Int32)) (by simp) d9_84 (by decide) (by decide) rfl ?_
            rw [eT]
            exact ⟨congrArg (fun z => some (Value.int z)) (by unfold f9; rw [if_neg c3, if_neg c9, if_pos c16, if_neg c72, if_neg c80]), N, rfl⟩
      · skip
        refine own_iloadN X hx hby p1 d9_19 rfl 20 rfl ?_
        refine own_iload X hx hby p5 d9_20 rfl 22 rfl ?_
        refine own_icmp_gt X hx hby d9_22 33 25 (by decide) rfl (fun c22 => ?_) (fun c22 => ?_)
        · skip
          refine own_iload X hx hby p5 d9_33 rfl 35 rfl ?_
          refine own_sipush X hx hby (360 : Int32) d9_35 rfl 38 rfl ?_
          refine own_icmp_ne X hx hby d9_38 50 41 (by decide) rfl (fun c38 => ?_) (fun c38 => ?_)
          · skip
            refine own_iload X hx hby p5 d9_50 rfl 52 rfl ?_
            refine own_sipush X hx hby (-360 : Int32) d9_52 rfl 55 rfl ?_
            refine own_icmp_ne X hx hby d9_55 67 58 (by decide) rfl (fun c55 => ?_) (fun c55 => ?_)
            · skip
              refine own_iconst X hx hby (0 : Int32) d9_67 rfl 68 rfl ?_
              refine own_retN X hx hby hret hlk (t := .boolean) (z' := (0 : Int32)) (by simp) d9_68 (by decide) (by decide) rfl ?_
              rw [eT]
              exact ⟨congrArg (fun z => some (Value.int z)) (by unfold f9; rw [if_neg c3, if_neg c9, if_neg c16, if_pos c22, if_neg c38, if_neg c55]), N, rfl⟩
            · skip
              refine own_iloadN X hx hby p3 d9_58 rfl 59 rfl ?_
              refine own_sipush X hx hby (360 : Int32) d9_59 rfl 62 rfl ?_
              refine own_icmp_ne X hx hby d9_62 67 65 (by decide) rfl (fun c62 => ?_) (fun c62 => ?_)
              · skip
                refine own_iconst X hx hby (0 : Int32) d9_67 rfl 68 rfl ?_
                refine own_retN X hx hby hret hlk (t := .boolean) (z' := (0 : Int32)) (by simp) d9_68 (by decide) (by decide) rfl ?_
                rw [eT]
                exact ⟨congrArg (fun z => some (Value.int z)) (by unfold f9; rw [if_neg c3, if_neg c9, if_neg c16, if_pos c22, if_neg c38, if_pos c55, if_neg c62]), N, rfl⟩
              · skip
                refine own_iconst X hx hby (1 : Int32) d9_65 rfl 66 rfl ?_
                refine own_retN X hx hby hret hlk (t := .boolean) (z' := (1 : Int32)) (by simp) d9_66 (by decide) (by decide) rfl ?_
                rw [eT]
                exact ⟨congrArg (fun z => some (Value.int z)) (by unfold f9; rw [if_neg c3, if_neg c9, if_neg c16, if_pos c22, if_neg c38, if_pos c55, if_pos c62]), N, rfl⟩
          · skip
            refine own_iloadN X hx hby p1 d9_41 rfl 42 rfl ?_
            refine own_sipush X hx hby (-360 : Int32) d9_42 rfl 45 rfl ?_
            refine own_icmp_ne X hx hby d9_45 50 48 (by decide) rfl (fun c45 => ?_) (fun c45 => ?_)
            · skip
              refine own_iload X hx hby p5 d9_50 rfl 52 rfl ?_
              refine own_sipush X hx hby (-360 : Int32) d9_52 rfl 55 rfl ?_
              refine own_icmp_ne X hx hby d9_55 67 58 (by decide) rfl (fun c55 => ?_) (fun c55 => ?_)
              · skip
                refine own_iconst X hx hby (0 : Int32) d9_67 rfl 68 rfl ?_
                refine own_retN X hx hby hret hlk (t := .boolean) (z' := (0 : Int32)) (by simp) d9_68 (by decide) (by decide) rfl ?_
                rw [eT]
                exact ⟨congrArg (fun z => some (Value.int z)) (by unfold f9; rw [if_neg c3, if_neg c9, if_neg c16, if_pos c22, if_pos c38, if_neg c45, if_neg c55]), N, rfl⟩
              · skip
                refine own_iloadN X hx hby p3 d9_58 rfl 59 rfl ?_
                refine own_sipush X hx hby (360 : Int32) d9_59 rfl 62 rfl ?_
                refine own_icmp_ne X hx hby d9_62 67 65 (by decide) rfl (fun c62 => ?_) (fun c62 => ?_)
                · skip
                  refine own_iconst X hx hby (0 : Int32) d9_67 rfl 68 rfl ?_
                  refine own_retN X hx hby hret hlk (t := .boolean) (z' := (0 : Int32)) (by simp) d9_68 (by decide) (by decide) rfl ?_
                  rw [eT]
                  exact ⟨congrArg (fun z => some (Value.int z)) (by unfold f9; rw [if_neg c3, if_neg c9, if_neg c16, if_pos c22, if_pos c38, if_neg c45, if_pos c55, if_neg c62]), N, rfl⟩
                · skip
                  refine own_iconst X hx hby (1 : Int32) d9_65 rfl 66 rfl ?_
                  refine own_retN X hx hby hret hlk (t := .boolean) (z' := (1 : Int32)) (by simp) d9_66 (by decide) (by decide) rfl ?_
                  rw [eT]
                  exact ⟨congrArg (fun z => some (Value.int z)) (by unfold f9; rw [if_neg c3, if_neg c9, if_neg c16, if_pos c22, if_pos c38, if_neg c45, if_pos c55, if_pos c62]), N, rfl⟩
            · skip
              refine own_iconst X hx hby (1 : Int32) d9_48 rfl 49 rfl ?_
              refine own_retN X hx hby hret hlk (t := .boolean) (z' := (1 : Int32)) (by simp) d9_49 (by decide) (by decide) rfl ?_
              rw [eT]
              exact ⟨congrArg (fun z => some (Value.int z)) (by unfold f9; rw [if_neg c3, if_neg c9, if_neg c16, if_pos c22, if_pos c38, if_pos c45]), N, rfl⟩
        · skip
          refine own_iload X hx hby p5 d9_25 rfl 27 rfl ?_
          refine own_iloadN X hx hby p3 d9_27 rfl 28 rfl ?_
          refine own_icmp_gt X hx hby d9_28 33 31 (by decide) rfl (fun c28 => ?_) (fun c28 => ?_)
          · skip
            refine own_iload X hx hby p5 d9_33 rfl 35 rfl ?_
            refine own_sipush X hx hby (360 : Int32) d9_35 rfl 38 rfl ?_
            refine own_icmp_ne X hx hby d9_38 50 41 (by decide) rfl (fun c38 => ?_) (fun c38 => ?_)
            · skip
              refine own_iload X hx hby p5 d9_50 rfl 52 rfl ?_
              refine own_sipush X hx hby (-360 : Int32) d9_52 rfl 55 rfl ?_
              refine own_icmp_ne X hx hby d9_55 67 58 (by decide) rfl (fun c55 => ?_) (fun c55 => ?_)
              · skip
                refine own_iconst X hx hby (0 : Int32) d9_67 rfl 68 rfl ?_
                refine own_retN X hx hby hret hlk (t := .boolean) (z' := (0 : Int32)) (by simp) d9_68 (by decide) (by decide) rfl ?_
                rw [eT]
                exact ⟨congrArg (fun z => some (Value.int z)) (by unfold f9; rw [if_neg c3, if_neg c9, if_neg c16, if_neg c22, if_pos c28, if_neg c38, if_neg c55]), N, rfl⟩
              · skip
                refine own_iloadN X hx hby p3 d9_58 rfl 59 rfl ?_
                refine own_sipush X hx hby (360 : Int32) d9_59 rfl 62 rfl ?_
                refine own_icmp_ne X hx hby d9_62 67 65 (by decide) rfl (fun c62 => ?_) (fun c62 => ?_)
                · skip
                  refine own_iconst X hx hby (0 : Int32) d9_67 rfl 68 rfl ?_
                  refine own_retN X hx hby hret hlk (t := .boolean) (z' := (0 : Int32)) (by simp) d9_68 (by decide) (by decide) rfl ?_
                  rw [eT]
                  exact ⟨congrArg (fun z => some (Value.int z)) (by unfold f9; rw [if_neg c3, if_neg c9, if_neg c16, if_neg c22, if_pos c28, if_neg c38, if_pos c55, if_neg c62]), N, rfl⟩
                · skip
                  refine own_iconst X hx hby (1 : Int32) d9_65 rfl 66 rfl ?_
                  refine own_retN X hx hby hret hlk (t := .boolean) (z' := (1 : Int32)) (by simp) d9_66 (by decide) (by decide) rfl ?_
                  rw [eT]
                  exact ⟨congrArg (fun z => some (Value.int z)) (by unfold f9; rw [if_neg c3, if_neg c9, if_neg c16, if_neg c22, if_pos c28, if_neg c38, if_pos c55, if_pos c62]), N, rfl⟩
            · skip
              refine own_iloadN X hx hby p1 d9_41 rfl 42 rfl ?_
              refine own_sipush X hx hby (-360 : Int32) d9_42 rfl 45 rfl ?_
              refine own_icmp_ne X hx hby d9_45 50 48 (by decide) rfl (fun c45 => ?_) (fun c45 => ?_)
              · skip
                refine own_iload X hx hby p5 d9_50 rfl 52 rfl ?_
                refine own_sipush X hx hby (-360 : Int32) d9_52 rfl 55 rfl ?_
                refine own_icmp_ne X hx hby d9_55 67 58 (by decide) rfl (fun c55 => ?_) (fun c55 => ?_)
                · skip
                  refine own_iconst X hx hby (0 : Int32) d9_67 rfl 68 rfl ?_
                  refine own_retN X hx hby hret hlk (t := .boolean) (z' := (0 : Int32)) (by simp) d9_68 (by decide) (by decide) rfl ?_
                  rw [eT]
                  exact ⟨congrArg (fun z => some (Value.int z)) (by unfold f9; rw [if_neg c3, if_neg c9, if_neg c16, if_neg c22, if_pos c28, if_pos c38, if_neg c45, if_neg c55]), N, rfl⟩
                · skip
                  refine own_iloadN X hx hby p3 d9_58 rfl 59 rfl ?_
                  refine own_sipush X hx hby (360 : Int32) d9_59 rfl 62 rfl ?_
                  refine own_icmp_ne X hx hby d9_62 67 65 (by decide) rfl (fun c62 => ?_) (fun c62 => ?_)
                  · skip
                    refine own_iconst X hx hby (0 : Int32) d9_67 rfl 68 rfl ?_
                    refine own_retN X hx hby hret hlk (t := .boolean) (z' := (0 : Int32)) (by simp) d9_68 (by decide) (by decide) rfl ?_
                    rw [eT]
                    exact ⟨congrArg (fun z => some (Value.int z)) (by unfold f9; rw [if_neg c3, if_neg c9, if_neg c16, if_neg c22, if_pos c28, if_pos c38, if_neg c45, if_pos c55, if_neg c62]), N, rfl⟩
                  · skip
                    refine own_iconst X hx hby (1 : Int32) d9_65 rfl 66 rfl ?_
                    refine own_retN X hx hby hret hlk (t := .boolean) (z' := (1 : Int32)) (by simp) d9_66 (by decide) (by decide) rfl ?_
                    rw [eT]
                    exact ⟨congrArg (fun z => some (Value.int z)) (by unfold f9; rw [if_neg c3, if_neg c9, if_neg c16, if_neg c22, if_pos c28, if_pos c38, if_neg c45, if_pos c55, if_pos c62]), N, rfl⟩
              · skip
                refine own_iconst X hx hby (1 : Int32) d9_48 rfl 49 rfl ?_
                refine own_retN X hx hby hret hlk (t := .boolean) (z' := (1 : Int32)) (by simp) d9_49 (by decide) (by decide) rfl ?_
                rw [eT]
                exact ⟨congrArg (fun z => some (Value.int z)) (by unfold f9; rw [if_neg c3, if_neg c9, if_neg c16, if_neg c22, if_pos c28, if_pos c38, if_pos c45]), N, rfl⟩
          · skip
            refine own_iconst X hx hby (1 : Int32) d9_31 rfl 32 rfl ?_
            refine own_retN X hx hby hret hlk (t := .boolean) (z' := (1 : Int32)) (by simp) d9_32 (by decide) (by decide) rfl ?_
            rw [eT]
            exact ⟨congrArg (fun z => some (Value.int z)) (by unfold f9; rw [if_neg c3, if_neg c9, if_neg c16, if_neg c22, if_neg c28]), N, rfl⟩
    · skip
      refine own_iconst X hx hby (0 : Int32) d9_12 rfl 13 rfl ?_
      refine own_retN X hx hby hret hlk (t := .boolean) (z' := (0 : Int32)) (by simp) d9_13 (by decide) (by decide) rfl ?_
      rw [eT]
      exact ⟨congrArg (fun z => some (Value.int z)) (by unfold f9; rw [if_neg c3, if_pos c9]), N, rfl⟩
theorem ef_5 (a1 : Addr) (kd2 : UInt64) (m : MethodId) : entryFrame m #[(.ref a1), (.double kd2)] 3 = mkF m 0 #[.val (.ref a1), .val (.double kd2), .second] [] := by first | (simp [entryFrame, mkF, argsToLocals, Value.category]; done) | rfl
def Q5 (Z : State) (a1 : Addr) (kd2 : Nat) (h0 : Heap) (n0 : Nat) (v : Option Value) (h : Heap) (L : List Loc) : Prop := v = none ∧ Fr n0 L ∧ h = h0
set_option maxRecDepth 65536 in
set_option maxHeartbeats 40000000 in
theorem rm5 (l : Launch) (Z : State) (a0 : Array Value) (hw : ∀ d ∈ tables_1, d.before a0 Z = true) (a1 : Addr) (kd2 : Nat) (h0 : Heap) (n0 : Nat) (Zs : n0 ≤ h0.size) (b_kd2 : kd2 < 801) (h1 : ¬ kd2 < 40) (h2 : ¬ 760 < kd2) :
    Met1 l Z (⟨"com/example/kvadtree/kvadtree/Coordinates", "checkLongitude", "(Ljava/lang/String;D)V"⟩ : MethodName) prog_9_method_4_code 3 none ({ frames := 0, cells := 0, slots := 0, locals := 0 } : Room) #[(.ref a1), (.double (own_h kd2))] h0 (Q5 Z a1 kd2 h0 n0) := by
  refine own_met_of (plainFor_of_name pn_5) (ef_5 a1 (own_h kd2)) ?_
  intro p e s m below meth c s₁ X hx hby hml hZ hown hnm hret hlk eT
  have hown : s.vm.findClass "com/example/kvadtree/kvadtree/Coordinates" = some m.cls := hown
  have N := Fr.nil n0
  refine own_dloadN X hx hby (own_h kd2) d5_0 rfl 1 rfl ?_
  refine own_ldc2D X hx hby hZ (own_h 40) hown (hw _ (List.mem_of_getElem? (i := 29) rfl)) own_k40 d5_1 4 rfl ?_
  have c5 : ¬ kd2 < 40 := h1
  refine own_dcmp_lt X hx hby b_kd2 (by decide) d5_4 d5_5 16 8 (by decide) rfl (fun q => absurd q c5) (fun _ => ?_)
  refine own_dloadN X hx hby (own_h kd2) d5_8 rfl 9 rfl ?_
  refine own_ldc2D X hx hby hZ (own_h 760) hown (hw _ (List.mem_of_getElem? (i := 30) rfl)) own_k760 d5_9 12 rfl ?_
  have c13 : ¬ 760 < kd2 := h2
  refine own_dcmp_le X hx hby b_kd2 (by decide) d5_12 d5_13 31 16 (by decide) rfl (fun _ => ?_) (fun q => absurd q c13)
  refine own_ret X hx hby hret hlk d5_31 (by decide) (by decide) ?_
  rw [eT]
  exact ⟨rfl, N, rfl⟩
theorem ef_6 (a1 : Addr) (kd2 : UInt64) (m : MethodId) : entryFrame m #[(.ref a1), (.double kd2)] 3 = mkF m 0 #[.val (.ref a1), .val (.double kd2), .second] [] := by first | (simp [entryFrame, mkF, argsToLocals, Value.category]; done) | rfl
def Q6 (Z : State) (a1 : Addr) (kd2 : Nat) (h0 : Heap) (n0 : Nat) (v : Option Value) (h : Heap) (L : List Loc) : Prop := v = none ∧ Fr n0 L ∧ h = h0
set_option maxRecDepth 65536 in
set_option maxHeartbeats 40000000 in
theorem rm6 (l : Launch) (Z : State) (a0 : Array Value) (hw : ∀ d ∈ tables_1, d.before a0 Z = true) (a1 : Addr) (kd2 : Nat) (h0 : Heap) (n0 : Nat) (Zs : n0 ≤ h0.size) (b_kd2 : kd2 < 801) (h1 : ¬ kd2 < 220) (h2 : ¬ 580 < kd2) :
    Met1 l Z (⟨"com/example/kvadtree/kvadtree/Coordinates", "checkLatitude", "(Ljava/lang/String;D)V"⟩ : MethodName) prog_9_method_5_code 3 none ({ frames := 0, cells := 0, slots := 0, locals := 0 } : Room) #[(.ref a1), (.double (own_h kd2))] h0 (Q6 Z a1 kd2 h0 n0) := by
  refine own_met_of (plainFor_of_name pn_5) (ef_6 a1 (own_h kd2)) ?_
  intro p e s m below meth c s₁ X hx hby hml hZ hown hnm hret hlk eT
  have hown : s.vm.findClass "com/example/kvadtree/kvadtree/Coordinates" = some m.cls := hown
  have N := Fr.nil n0
  refine own_dloadN X hx hby (own_h kd2) d6_0 rfl 1 rfl ?_
  refine own_ldc2D X hx hby hZ (own_h 220) hown (hw _ (List.mem_of_getElem? (i := 35) rfl)) own_k220 d6_1 4 rfl ?_
  have c5 : ¬ kd2 < 220 := h1
  refine own_dcmp_lt X hx hby b_kd2 (by decide) d6_4 d6_5 16 8 (by decide) rfl (fun q => absurd q c5) (fun _ => ?_)
  refine own_dloadN X hx hby (own_h kd2) d6_8 rfl 9 rfl ?_
  refine own_ldc2D X hx hby hZ (own_h 580) hown (hw _ (List.mem_of_getElem? (i := 36) rfl)) own_k580 d6_9 12 rfl ?_
  have c13 : ¬ 580 < kd2 := h2
  refine own_dcmp_le X hx hby b_kd2 (by decide) d6_12 d6_13 31 16 (by decide) rfl (fun _ => ?_) (fun q => absurd q c13)
  refine own_ret X hx hby hret hlk d6_31 (by decide) (by decide) ?_
  rw [eT]
  exact ⟨rfl, N, rfl⟩
theorem ef_7_A (kd1 : UInt64) (kd2 : UInt64) (m : MethodId) : entryFrame m #[(.double kd1), (.double kd2)] 5 = mkF m 0 #[.val (.double kd1), .second, .val (.double kd2), .second, .unset] [] := by first | (simp [entryFrame, mkF, argsToLocals, Value.category]; done) | rfl
def Q7_A (Z : State) (kd1 : Nat) (kd2 : Nat) (h0 : Heap) (n0 : Nat) (v : Option Value) (h : Heap) (L : List Loc) : Prop := ∃ (b7 : Addr) (b13 : Addr) (b29 : Addr), v = some (.ref b7) ∧ Fr n0 L ∧ Keep h0 h [] ∧ h0.size ≤ b7 ∧ h0.size ≤ b13 ∧ h0.size ≤ b29 ∧ Afn Z h b7 (.array .double) 2 (upd (upd (fun _ => .null) 0 (.ref b13)) 1 (.ref b29)) ∧ Exa Z h b7 "[[D" ∧ Afn Z h b13 .double 2 (upd (upd (fun _ => (.double 0)) 0 (.double (own_h kd1))) 1 (.double (own_h 760))) ∧ Exa Z h b13 "[D" ∧ Afn Z h b29 .double 2 (upd (upd (fun _ => (.double 0)) 0 (.double (own_h 40))) 1 (.double (own_h kd2))) ∧ Exa Z h b29 "[D"
set_option maxRecDepth 65536 in
set_option maxHeartbeats 40000000 in
theorem rm7_A (l : Launch) (Z : State) (a0 : Array Value) (hw : ∀ d ∈ tables_1, d.before a0 Z = true) (kd1 : Nat) (kd2 : Nat) (h0 : Heap) (n0 : Nat) (Zs : n0 ≤ h0.size) (b_kd1 : kd1 < 801) (b_kd2 : kd2 < 801) (iA : kd2 < kd1) :
    Met1 l Z (⟨"com/example/kvadtree/kvadtree/Box", "intervals", "(DD)[[D"⟩ : MethodName) prog_2_method_9_code 5 (some (.array (.array .double))) ({ frames := 0, cells := 3, slots := 6, locals := 0 } : Room) #[(.double (own_h kd1)), (.double (own_h kd2))] h0 (Q7_A Z kd1 kd2 h0 n0) := by
  refine own_met_of (plainFor_of_name pn_7) (ef_7_A (own_h kd1) (own_h kd2)) ?_
  intro p e s m below meth c s₁ X hx hby hml hZ hown hnm hret hlk eT
  have hown : s.vm.findClass "com/example/kvadtree/kvadtree/Box" = some m.cls := hown
  have N := Fr.nil n0
  have K := Keep.refl h0 []
  refine own_dloadN X hx hby (own_h kd1) d7_0 rfl 1 rfl ?_
  refine own_dloadN X hx hby (own_h kd2) d7_1 rfl 2 rfl ?_
  have c3 : kd2 < kd1 := iA
  refine own_dcmp_le X hx hby b_kd1 b_kd2 d7_2 d7_3 47 6 (by decide) rfl (fun q => absurd c3 q) (fun _ => ?_)
  refine own_iconst X hx hby (2 : Int32) d7_6 rfl 7 rfl ?_
  refine own_anewarrayA X hx hby hZ hown (ty := .double) rfl (hw _ (List.mem_of_getElem? (i := 52) rfl)) (hw _ (List.mem_of_getElem? (i := 53) rfl)) eT d7_7 (z := (2 : Int32)) (by decide) (n := 2) rfl (cap := 2) (by decide) (by decide) (by decide) (by decide) (ad := "[[D") rfl 10 rfl ?_
  intro T7 h7 b7 gb7 X eT Ex A A2 Ov
  have g_b7 : n0 ≤ b7 := by rw [gb7]; exact Zs
  have sz_b7 : h0.size ≤ b7 := by rw [gb7]; exact K.1
  have A_b7 : Afn Z h7 b7 (.array .double) 2 (fun _ => .null) := A
  have E_b7 := A2
  have O_b7 := Ov
  have K := K.ext Ex
  have Zs := Nat.le_trans Zs Ex.1
  refine own_dup X hx hby d7_10 rfl 11 rfl ?_
  refine own_iconst X hx hby (0 : Int32) d7_11 rfl 12 rfl ?_
  refine own_iconst X hx hby (2 : Int32) d7_12 rfl 13 rfl ?_
  refine own_newarray X hx hby hZ (hw _ (List.mem_of_getElem? (i := 54) rfl)) eT d7_13 (z := (2 : Int32)) (by decide) (n := 2) rfl (cap := 2) (by decide) (by decide) (by decide) (by decide) (ad := "[D") rfl 15 rfl ?_
  intro T13 h13 b13 gb13 X eT Ex A A2
  have g_b13 : n0 ≤ b13 := by rw [gb13]; exact Zs
  have sz_b13 : h0.size ≤ b13 := by rw [gb13]; exact K.1
  have ne_b7_b13 : b7 ≠ b13 := Nat.ne_of_lt (by rw [gb13]; exact A_b7.lt)
  have A_b7 := A_b7.ext Ex
  have E_b7 := E_b7.ext Ex
  have O_b7 := O_b7.ext Ex
  have A_b13 : Afn Z h13 b13 .double 2 (fun _ => (.double 0)) := A
  have E_b13 := A2
  have K := K.ext Ex
  have Zs := Nat.le_trans Zs Ex.1
  refine own_dup X hx hby d7_15 rfl 16 rfl ?_
  refine own_iconst X hx hby (0 : Int32) d7_16 rfl 17 rfl ?_
  refine own_dloadN X hx hby (own_h kd1) d7_17 rfl 18 rfl ?_
  refine own_dastore X hx hby hZ eT A_b13 (by decide) d7_18 19 rfl ?_
  intro T18 h18 X eT W A
  have A_b7 := A_b7.other W ne_b7_b13
  have E_b7 := E_b7.wr W
  have O_b7 := O_b7.wr W
  have E_b13 := E_b13.wr W
  have A_b13 : Afn Z h18 b13 .double 2 (upd (fun _ => (.double 0)) 0 (.double (own_h kd1))) := A
  have N := Fr.snoc X N g_b13
  have K := K.wr W (Or.inr sz_b13)
  have Zs := Nat.le_trans Zs (Keep.of_wr W).1
  refine own_dup X hx hby d7_19 rfl 20 rfl ?_
  refine own_iconst X hx hby (1 : Int32) d7_20 rfl 21 rfl ?_
  refine own_ldc2D X hx hby hZ (own_h 760) hown (hw _ (List.mem_of_getElem? (i := 51) rfl)) own_k760 d7_21 24 rfl ?_
  refine own_dastore X hx hby hZ eT A_b13 (by decide) d7_24 25 rfl ?_
  intro T24 h24 X eT W A
  have A_b7 := A_b7.other W ne_b7_b13
  have E_b7 := E_b7.wr W
  have O_b7 := O_b7.wr W
  have E_b13 := E_b13.wr W
  have A_b13 : Afn Z h24 b13 .double 2 (upd (upd (fun _ => (.double 0)) 0 (.double (own_h kd1))) 1 (.double (own_h 760))) := A
  have N := Fr.snoc X N g_b13
  have K := K.wr W (Or.inr sz_b13)
  have Zs := Nat.le_trans Zs (Keep.of_wr W).1
  refine own_aastore X hx hby hZ eT A_b7 (by decide) rfl rfl (O_b7.sto (Ins.self E_b13)) d7_25 26 rfl ?_
  intro T25 h25 X eT W A
  have E_b7 := E_b7.wr W
  have O_b7 := O_b7.wr W
  have A_b13 := A_b13.other W (Ne.symm ne_b7_b13)
  have E_b13 := E_b13.wr W
  have A_b7 : Afn Z h25 b7 (.array .double) 2 (upd (fun _ => .null) 0 (.ref b13)) := A
  have N := Fr.snoc X N g_b7
  have K := K.wr W (Or.inr sz_b7)
  have Zs := Nat.le_trans Zs (Keep.of_wr W).1
  refine own_dup X hx hby d7_26 rfl 27 rfl ?_
  refine own_iconst X hx hby (1 : Int32) d7_27 rfl 28 rfl ?_
  refine own_iconst X hx hby (2 : Int32) d7_28 rfl 29 rfl ?_
  refine own_newarray X hx hby hZ (hw _ (List.mem_of_getElem? (i := 54) rfl)) eT d7_29 (z := (2 : Int32)) (by decide) (n := 2) rfl (cap := 2) (by decide) (by decide) (by decide) (by decide) (ad := "[D") rfl 31 rfl ?_
  intro T29 h29 b29 gb29 X eT Ex A A2
  have g_b29 : n0 ≤ b29 := by rw [gb29]; exact Zs
  have sz_b29 : h0.size ≤ b29 := by rw [gb29]; exact K.1
  have ne_b13_b29 : b13 ≠ b29 := Nat.ne_of_lt (by rw [gb29]; exact A_b13.lt)
  have ne_b7_b29 : b7 ≠ b29 := Nat.ne_of_lt (by rw [gb29]; exact A_b7.lt)
  have A_b7 := A_b7.ext Ex
  have E_b7 := E_b7.ext Ex
  have O_b7 := O_b7.ext Ex
  have A_b13 := A_b13.ext Ex
  have E_b13 := E_b13.ext Ex
  have A_b29 : Afn Z h29 b29 .double 2 (fun _ => (.double 0)) := A
  have E_b29 := A2
  have K := K.ext Ex
  have Zs := Nat.le_trans Zs Ex.1
  refine own_dup X hx hby d7_31 rfl 32 rfl ?_
  refine own_iconst X hx hby (0 : Int32) d7_32 rfl 33 rfl ?_
  refine own_ldc2D X hx hby hZ (own_h 40) hown (hw _ (List.mem_of_getElem? (i := 50) rfl)) own_k40 d7_33 36 rfl ?_
  refine own_dastore X hx hby hZ eT A_b29 (by decide) d7_36 37 rfl ?_
  intro T36 h36 X eT W A
  have A_b7 := A_b7.other W ne_b7_b29
  have E_b7 := E_b7.wr W
  have O_b7 := O_b7.wr W
  have A_b13 := A_b13.other W ne_b13_b29
  have E_b13 := E_b13.wr W
  have E_b29 := E_b29.wr W
  have A_b29 : Afn Z h36 b29 .double 2 (upd (fun _ => (.double 0)) 0 (.double (own_h 40))) := A
  have N := Fr.snoc X N g_b29
  have K := K.wr W (Or.inr sz_b29)
  have Zs := Nat.le_trans Zs (Keep.of_wr W).1
  refine own_dup X hx hby d7_37 rfl 38 rfl ?_
  refine own_iconst X hx hby (1 : Int32) d7_38 rfl 39 rfl ?_
  refine own_dloadN X hx hby (own_h kd2) d7_39 rfl 40 rfl ?_
  refine own_dastore X hx hby hZ eT A_b29 (by decide) d7_40 41 rfl ?_
  intro T40 h40 X eT W A
  have A_b7 := A_b7.other W ne_b7_b29
  have E_b7 := E_b7.wr W
  have O_b7 := O_b7.wr W
  have A_b13 := A_b13.other W ne_b13_b29
  have E_b13 := E_b13.wr W
  have E_b29 := E_b29.wr W
  have A_b29 : Afn Z h40 b29 .double 2 (upd (upd (fun _ => (.double 0)) 0 (.double (own_h 40))) 1 (.double (own_h kd2))) := A
  have N := Fr.snoc X N g_b29
  have K := K.wr W (Or.inr sz_b29)
  have Zs := Nat.le_trans Zs (Keep.of_wr W).1
  refine own_aastore X hx hby hZ eT A_b7 (by decide) rfl rfl (O_b7.sto (Ins.self E_b29)) d7_41 42 rfl ?_
  intro T41 h41 X eT W A
  have E_b7 := E_b7.wr W
  have O_b7 := O_b7.wr W
  have A_b13 := A_b13.other W (Ne.symm ne_b7_b13)
  have E_b13 := E_b13.wr W
  have A_b29 := A_b29.other W (Ne.symm ne_b7_b29)
  have E_b29 := E_b29.wr W
  have A_b7 : Afn Z h41 b7 (.array .double) 2 (upd (upd (fun _ => .null) 0 (.ref b13)) 1 (.ref b29)) := A
  have N := Fr.snoc X N g_b7
  have K := K.wr W (Or.inr sz_b7)
  have Zs := Nat.le_trans Zs (Keep.of_wr W).1
  refine own_astore X hx hby d7_42 rfl (l' := #[.val (.double (own_h kd1)), .second, .val (.double (own_h kd2)), .second, .val (.ref b7)]) rfl 44 rfl ?_
  refine own_goto X hx hby d7_44 204 (by decide) ?_
  refine own_aload X hx hby (.ref b7) d7_204 rfl rfl 206 rfl ?_
  refine own_retA X hx hby hret hlk rfl rfl rfl d7_206 (by decide) (by decide) ?_
  rw [eT]
  exact ⟨b7, b13, b29, rfl, N, K, sz_b7, sz_b13, sz_b29, A_b7, E_b7, A_b13, E_b13, A_b29, E_b29⟩
theorem ef_7_B (kd1 : UInt64) (kd2 : UInt64) (m : MethodId) : entryFrame m #[(.double kd1), (.double kd2)] 5 = mkF m 0 #[.val (.double kd1), .second, .val (.double kd2), .second, .unset] [] := by first | (simp [entryFrame, mkF, argsToLocals, Value.category]; done) | rfl
def Q7_B (Z : State) (kd1 : Nat) (kd2 : Nat) (h0 : Heap) (n0 : Nat) (v : Option Value) (h : Heap) (L : List Loc) : Prop := ∃ (b64 : Addr) (b70 : Addr), v = some (.ref b64) ∧ Fr n0 L ∧ Keep h0 h [] ∧ h0.size ≤ b64 ∧ h0.size ≤ b70 ∧ Afn Z h b64 (.array .double) 1 (upd (fun _ => .null) 0 (.ref b70)) ∧ Exa Z h b64 "[[D" ∧ Afn Z h b70 .double 2 (upd (upd (fun _ => (.double 0)) 0 (.double (own_h kd1))) 1 (.double (own_h kd2))) ∧ Exa Z h b70 "[D"
set_option maxRecDepth 65536 in
set_option maxHeartbeats 40000000 in
theorem rm7_B (l : Launch) (Z : State) (a0 : Array Value) (hw : ∀ d ∈ tables_1, d.before a0 Z = true) (kd1 : Nat) (kd2 : Nat) (h0 : Heap) (n0 : Nat) (Zs : n0 ≤ h0.size) (b_kd1 : kd1 < 801) (b_kd2 : kd2 < 801) (iN : ¬ kd2 < kd1) (i1 : kd1 = 40) (i2 : kd2 = 760) :
    Met1 l Z (⟨"com/example/kvadtree/kvadtree/Box", "intervals", "(DD)[[D"⟩ : MethodName) prog_2_method_9_code 5 (some (.array (.array .double))) ({ frames := 0, cells := 2, slots := 3, locals := 0 } : Room) #[(.double (own_h kd1)), (.double (own_h kd2))] h0 (Q7_B Z kd1 kd2 h0 n0) := by
  refine own_met_of (plainFor_of_name pn_7) (ef_7_B (own_h kd1) (own_h kd2)) ?_
  intro p e s m below meth c s₁ X hx hby hml hZ hown hnm hret hlk eT
  have hown : s.vm.findClass "com/example/kvadtree/kvadtree/Box" = some m.cls := hown
  have N := Fr.nil n0
  have K := Keep.refl h0 []
  refine own_dloadN X hx hby (own_h kd1) d7_0 rfl 1 rfl ?_
  refine own_dloadN X hx hby (own_h kd2) d7_1 rfl 2 rfl ?_
  have c3 : ¬ kd2 < kd1 := iN
  refine own_dcmp_le X hx hby b_kd1 b_kd2 d7_2 d7_3 47 6 (by decide) rfl (fun _ => ?_) (fun q => absurd q c3)
  refine own_dloadN X hx hby (own_h kd1) d7_47 rfl 48 rfl ?_
  refine own_ldc2D X hx hby hZ (own_h 40) hown (hw _ (List.mem_of_getElem? (i := 50) rfl)) own_k40 d7_48 51 rfl ?_
  have c52 : kd1 = 40 := i1
  refine own_dcmp_ne X hx hby b_kd1 (by decide) d7_51 d7_52 86 55 (by decide) rfl (fun q => absurd c52 q) (fun _ => ?_)
  refine own_dloadN X hx hby (own_h kd2) d7_55 rfl 56 rfl ?_
  refine own_ldc2D X hx hby hZ (own_h 760) hown (hw _ (List.mem_of_getElem? (i := 51) rfl)) own_k760 d7_56 59 rfl ?_
  have c60 : kd2 = 760 := i2
  refine own_dcmp_ne X hx hby b_kd2 (by decide) d7_59 d7_60 86 63 (by decide) rfl (fun q => absurd c60 q) (fun _ => ?_)
  refine own_iconst X hx hby (1 : Int32) d7_63 rfl 64 rfl ?_
  refine own_anewarrayA X hx hby hZ hown (ty := .double) rfl (hw _ (List.mem_of_getElem? (i := 52) rfl)) (hw _ (List.mem_of_getElem? (i := 53) rfl)) eT d7_64 (z := (1 : Int32)) (by decide) (n := 1) rfl (cap := 1) (by decide) (by decide) (by decide) (by decide) (ad := "[[D") rfl 67 rfl ?_
  intro T64 h64 b64 gb64 X eT Ex A A2 Ov
  have g_b64 : n0 ≤ b64 := by rw [gb64]; exact Zs
  have sz_b64 : h0.size ≤ b64 := by rw [gb64]; exact K.1
  have A_b64 : Afn Z h64 b64 (.array .double) 1 (fun _ => .null) := A
  have E_b64 := A2
  have O_b64 := Ov
  have K := K.ext Ex
  have Zs := Nat.le_trans Zs Ex.1
  refine own_dup X hx hby d7_67 rfl 68 rfl ?_
  refine own_iconst X hx hby (0 : Int32) d7_68 rfl 69 rfl ?_
  refine own_iconst X hx hby (2 : Int32) d7_69 rfl 70 rfl ?_
  refine own_newarray X hx hby hZ (hw _ (List.mem_of_getElem? (i := 54) rfl)) eT d7_70 (z := (2 : Int32)) (by decide) (n := 2) rfl (cap := 2) (by decide) (by decide) (by decide) (by decide) (ad := "[D") rfl 72 rfl ?_
  intro T70 h70 b70 gb70 X eT Ex A A2
  have g_b70 : n0 ≤ b70 := by rw [gb70]; exact Zs
  have sz_b70 : h0.size ≤ b70 := by rw [gb70]; exact K.1
  have ne_b64_b70 : b64 ≠ b70 := Nat.ne_of_lt (by rw [gb70]; exact A_b64.lt)
  have A_b64 := A_b64.ext Ex
  have E_b64 := E_b64.ext Ex
  have O_b64 := O_b64.ext Ex
  have A_b70 : Afn Z h70 b70 .double 2 (fun _ => (.double 0)) := A
  have E_b70 := A2
  have K := K.ext Ex
  have Zs := Nat.le_trans Zs Ex.1
  refine own_dup X hx hby d7_72 rfl 73 rfl ?_
  refine own_iconst X hx hby (0 : Int32) d7_73 rfl 74 rfl ?_
  refine own_dloadN X hx hby (own_h kd1) d7_74 rfl 75 rfl ?_
  refine own_dastore X hx hby hZ eT A_b70 (by decide) d7_75 76 rfl ?_
  intro T75 h75 X eT W A
  have A_b64 := A_b64.other W ne_b64_b70
  have E_b64 := E_b64.wr W
  have O_b64 := O_b64.wr W
  have E_b70 := E_b70.wr W
  have A_b70 : Afn Z h75 b70 .double 2 (upd (fun _ => (.double 0)) 0 (.double (own_h kd1))) := A
  have N := Fr.snoc X N g_b70
  have K := K.wr W (Or.inr sz_b70)
  have Zs := Nat.le_trans Zs (Keep.of_wr W).1
  refine own_dup X hx hby d7_76 rfl 77 rfl ?_
  refine own_iconst X hx hby (1 : Int32) d7_77 rfl 78 rfl ?_
  refine own_dloadN X hx hby (own_h kd2) d7_78 rfl 79 rfl ?_
  refine own_dastore X hx hby hZ eT A_b70 (by decide) d7_79 80 rfl ?_
  intro T79 h79 X eT W A
  have A_b64 := A_b64.other W ne_b64_b70
  have E_b64 := E_b64.wr W
  have O_b64 := O_b64.wr W
  have E_b70 := E_b70.wr W
  have A_b70 : Afn Z h79 b70 .double 2 (upd (upd (fun _ => (.double 0)) 0 (.double (own_h kd1))) 1 (.double (own_h kd2))) := A
  have N := Fr.snoc X N g_b70
  have K := K.wr W (Or.inr sz_b70)
  have Zs := Nat.le_trans Zs (Keep.of_wr W).1
  refine own_aastore X hx hby hZ eT A_b64 (by decide) rfl rfl (O_b64.sto (Ins.self E_b70)) d7_80 81 rfl ?_
  intro T80 h80 X eT W A
  have E_b64 := E_b64.wr W
  have O_b64 := O_b64.wr W
  have A_b70 := A_b70.other W (Ne.symm ne_b64_b70)
  have E_b70 := E_b70.wr W
  have A_b64 : Afn Z h80 b64 (.array .double) 1 (upd (fun _ => .null) 0 (.ref b70)) := A
  have N := Fr.snoc X N g_b64
  have K := K.wr W (Or.inr sz_b64)
  have Zs := Nat.le_trans Zs (Keep.of_wr W).1
  refine own_astore X hx hby d7_81 rfl (l' := #[.val (.double (own_h kd1)), .second, .val (.double (own_h kd2)), .second, .val (.ref b64)]) rfl 83 rfl ?_
  refine own_goto X hx hby d7_83 204 (by decide) ?_
  refine own_aload X hx hby (.ref b64) d7_204 rfl rfl 206 rfl ?_
  refine own_retA X hx hby hret hlk rfl rfl rfl d7_206 (by decide) (by decide) ?_
  rw [eT]
  exact ⟨b64, b70, rfl, N, K, sz_b64, sz_b70, A_b64, E_b64, A_b70, E_b70⟩
theorem ef_7_C (kd1 : UInt64) (kd2 : UInt64) (m : MethodId) : entryFrame m #[(.double kd1), (.double kd2)] 5 = mkF m 0 #[.val (.double kd1), .second, .val (.double kd2), .second, .unset] [] := by first | (simp [entryFrame, mkF, argsToLocals, Value.category]; done) | rfl
def Q7_C (Z : State) (kd1 : Nat) (kd2 : Nat) (h0 : Heap) (n0 : Nat) (v : Option Value) (h : Heap) (L : List Loc) : Prop := ∃ (b95 : Addr) (b101 : Addr) (b115 : Addr), v = some (.ref b95) ∧ Fr n0 L ∧ Keep h0 h [] ∧ h0.size ≤ b95 ∧ h0.size ≤ b101 ∧ h0.size ≤ b115 ∧ Afn Z h b95 (.array .double) 2 (upd (upd (fun _ => .null) 0 (.ref b101)) 1 (.ref b115)) ∧ Exa Z h b95 "[[D" ∧ Afn Z h b101 .double 2 (upd (upd (fun _ => (.double 0)) 0 (.double (own_h kd1))) 1 (.double (own_h kd2))) ∧ Exa Z h b101 "[D" ∧ Afn Z h b115 .double 2 (upd (upd (fun _ => (.double 0)) 0 (.double (own_h 40))) 1 (.double (own_h 40))) ∧ Exa Z h b115 "[D"
set_option maxRecDepth 65536 in
set_option maxHeartbeats 40000000 in
theorem rm7_C (l : Launch) (Z : State) (a0 : Array Value) (hw : ∀ d ∈ tables_1, d.before a0 Z = true) (kd1 : Nat) (kd2 : Nat) (h0 : Heap) (n0 : Nat) (Zs : n0 ≤ h0.size) (b_kd1 : kd1 < 801) (b_kd2 : kd2 < 801) (iN : ¬ kd2 < kd1) (i1 : ¬ kd1 = 40) (i2 : kd2 = 760) :
    Met1 l Z (⟨"com/example/kvadtree/kvadtree/Box", "intervals", "(DD)[[D"⟩ : MethodName) prog_2_method_9_code 5 (some (.array (.array .double))) ({ frames := 0, cells := 3, slots := 6, locals := 0 } : Room) #[(.double (own_h kd1)), (.double (own_h kd2))] h0 (Q7_C Z kd1 kd2 h0 n0) := by
  refine own_met_of (plainFor_of_name pn_7) (ef_7_C (own_h kd1) (own_h kd2)) ?_
  intro p e s m below meth c s₁ X hx hby hml hZ hown hnm hret hlk eT
  have hown : s.vm.findClass "com/example/kvadtree/kvadtree/Box" = some m.cls := hown
  have N := Fr.nil n0
  have K := Keep.refl h0 []
  refine own_dloadN X hx hby (own_h kd1) d7_0 rfl 1 rfl ?_
  refine own_dloadN X hx hby (own_h kd2) d7_1 rfl 2 rfl ?_
  have c3 : ¬ kd2 < kd1 := iN
  refine own_dcmp_le X hx hby b_kd1 b_kd2 d7_2 d7_3 47 6 (by decide) rfl (fun _ => ?_) (fun q => absurd q c3)
  refine own_dloadN X hx hby (own_h kd1) d7_47 rfl 48 rfl ?_
  refine own_ldc2D X hx hby hZ (own_h 40) hown (hw _ (List.mem_of_getElem? (i := 50) rfl)) own_k40 d7_48 51 rfl ?_
  have c52 : ¬ kd1 = 40 := i1
  refine own_dcmp_ne X hx hby b_kd1 (by decide) d7_51 d7_52 86 55 (by decide) rfl (fun _ => ?_) (fun q => absurd q c52)
  refine own_dloadN X hx hby (own_h kd2) d7_86 rfl 87 rfl ?_
  refine own_ldc2D X hx hby hZ (own_h 760) hown (hw _ (List.mem_of_getElem? (i := 51) rfl)) own_k760 d7_87 90 rfl ?_
  have c91 : kd2 = 760 := i2
  refine own_dcmp_ne X hx hby b_kd2 (by decide) d7_90 d7_91 135 94 (by decide) rfl (fun q => absurd c91 q) (fun _ => ?_)
  refine own_iconst X hx hby (2 : Int32) d7_94 rfl 95 rfl ?_
  refine own_anewarrayA X hx hby hZ hown (ty := .double) rfl (hw _ (List.mem_of_getElem? (i := 52) rfl)) (hw _ (List.mem_of_getElem? (i := 53) rfl)) eT d7_95 (z := (2 : Int32)) (by decide) (n := 2) rfl (cap := 2) (by decide) (by decide) (by decide) (by decide) (ad := "[[D") rfl 98 rfl ?_
  intro T95 h95 b95 gb95 X eT Ex A A2 Ov
  have g_b95 : n0 ≤ b95 := by rw [gb95]; exact Zs
  have sz_b95 : h0.size ≤ b95 := by rw [gb95]; exact K.1
  have A_b95 : Afn Z h95 b95 (.array .double) 2 (fun _ => .null) := A
  have E_b95 := A2
  have O_b95 := Ov
  have K := K.ext Ex
  have Zs := Nat.le_trans Zs Ex.1
  refine own_dup X hx hby d7_98 rfl 99 rfl ?_
  refine own_iconst X hx hby (0 : Int32) d7_99 rfl 100 rfl ?_
  refine own_iconst X hx hby (2 : Int32) d7_100 rfl 101 rfl ?_
  refine own_newarray X hx hby hZ (hw _ (List.mem_of_getElem? (i := 54) rfl)) eT d7_101 (z := (2 : Int32)) (by decide) (n := 2) rfl (cap := 2) (by decide) (by decide) (by decide) (by decide) (ad := "[D") rfl 103 rfl ?_
  intro T101 h101 b101 gb101 X eT Ex A A2
  have g_b101 : n0 ≤ b101 := by rw [gb101]; exact Zs
  have sz_b101 : h0.size ≤ b101 := by rw [gb101]; exact K.1
  have ne_b95_b101 : b95 ≠ b101 := Nat.ne_of_lt (by rw [gb101]; exact A_b95.lt)
  have A_b95 := A_b95.ext Ex
  have E_b95 := E_b95.ext Ex
  have O_b95 := O_b95.ext Ex
  have A_b101 : Afn Z h101 b101 .double 2 (fun _ => (.double 0)) := A
  have E_b101 := A2
  have K := K.ext Ex
  have Zs := Nat.le_trans Zs Ex.1
  refine own_dup X hx hby d7_103 rfl 104 rfl ?_
  refine own_iconst X hx hby (0 : Int32) d7_104 rfl 105 rfl ?_
  refine own_dloadN X hx hby (own_h kd1) d7_105 rfl 106 rfl ?_
  refine own_dastore X hx hby hZ eT A_b101 (by decide) d7_106 107 rfl ?_
  intro T106 h106 X eT W A
  have A_b95 := A_b95.other W ne_b95_b101
  have E_b95 := E_b95.wr W
  have O_b95 := O_b95.wr W
  have E_b101 := E_b101.wr W
  have A_b101 : Afn Z h106 b101 .double 2 (upd (fun _ => (.double 0)) 0 (.double (own_h kd1))) := A
  have N := Fr.snoc X N g_b101
  have K := K.wr W (Or.inr sz_b101)
  have Zs := Nat.le_trans Zs (Keep.of_wr W).1
  refine own_dup X hx hby d7_107 rfl 108 rfl ?_
  refine own_iconst X hx hby (1 : Int32) d7_108 rfl 109 rfl ?_
  refine own_dloadN X hx hby (own_h kd2) d7_109 rfl 110 rfl ?_
  refine own_dastore X hx hby hZ eT A_b101 (by decide) d7_110 111 rfl ?_
  intro T110 h110 X eT W A
  have A_b95 := A_b95.other W ne_b95_b101
  have E_b95 := E_b95.wr W
  have O_b95 := O_b95.wr W
  have E_b101 := E_b101.wr W
  have A_b101 : Afn Z h110 b101 .double 2 (upd (upd (fun _ => (.double 0)) 0 (.double (own_h kd1))) 1 (.double (own_h kd2))) := A
  have N := Fr.snoc X N g_b101
  have K := K.wr W (Or.inr sz_b101)
  have Zs := Nat.le_trans Zs (Keep.of_wr W).1
  refine own_aastore X hx hby hZ eT A_b95 (by decide) rfl rfl (O_b95.sto (Ins.self E_b101)) d7_111 112 rfl ?_
  intro T111 h111 X eT W A
  have E_b95 := E_b95.wr W
  have O_b95 := O_b95.wr W
  have A_b101 := A_b101.other W (Ne.symm ne_b95_b101)
  have E_b101 := E_b101.wr W
  have A_b95 : Afn Z h111 b95 (.array .double) 2 (upd (fun _ => .null) 0 (.ref b101)) := A
  have N := Fr.snoc X N g_b95
  have K := K.wr W (Or.inr sz_b95)
  have Zs := Nat.le_trans Zs (Keep.of_wr W).1
  refine own_dup X hx hby d7_112 rfl 113 rfl ?_
  refine own_iconst X hx hby (1 : Int32) d7_113 rfl 114 rfl ?_
  refine own_iconst X hx hby (2 : Int32) d7_114 rfl 115 rfl ?_
  refine own_newarray X hx hby hZ (hw _ (List.mem_of_getElem? (i := 54) rfl)) eT d7_115 (z := (2 : Int32)) (by decide) (n := 2) rfl (cap := 2) (by decide) (by decide) (by decide) (by decide) (ad := "[D") rfl 117 rfl ?_
  intro T115 h115 b115 gb115 X eT Ex A A2
  have g_b115 : n0 ≤ b115 := by rw [gb115]; exact Zs
  have sz_b115 : h0.size ≤ b115 := by rw [gb115]; exact K.1
  have ne_b101_b115 : b101 ≠ b115 := Nat.ne_of_lt (by rw [gb115]; exact A_b101.lt)
  have ne_b95_b115 : b95 ≠ b115 := Nat.ne_of_lt (by rw [gb115]; exact A_b95.lt)
  have A_b95 := A_b95.ext Ex
  have E_b95 := E_b95.ext Ex
  have O_b95 := O_b95.ext Ex
  have A_b101 := A_b101.ext Ex
  have E_b101 := E_b101.ext Ex
  have A_b115 : Afn Z h115 b115 .double 2 (fun _ => (.double 0)) := A
  have E_b115 := A2
  have K := K.ext Ex
  have Zs := Nat.le_trans Zs Ex.1
  refine own_dup X hx hby d7_117 rfl 118 rfl ?_
  refine own_iconst X hx hby (0 : Int32) d7_118 rfl 119 rfl ?_
  refine own_ldc2D X hx hby hZ (own_h 40) hown (hw _ (List.mem_of_getElem? (i := 50) rfl)) own_k40 d7_119 122 rfl ?_
  refine own_dastore X hx hby hZ eT A_b115 (by decide) d7_122 123 rfl ?_
  intro T122 h122 X eT W A
  have A_b95 := A_b95.other W ne_b95_b115
  have E_b95 := E_b95.wr W
  have O_b95 := O_b95.wr W
  have A_b101 := A_b101.other W ne_b101_b115
  have E_b101 := E_b101.wr W
  have E_b115 := E_b115.wr W
  have A_b115 : Afn Z h122 b115 .double 2 (upd (fun _ => (.double 0)) 0 (.double (own_h 40))) := A
  have N := Fr.snoc X N g_b115
  have K := K.wr W (Or.inr sz_b115)
  have Zs := Nat.le_trans Zs (Keep.of_wr W).1
  refine own_dup X hx hby d7_123 rfl 124 rfl ?_
  refine own_iconst X hx hby (1 : Int32) d7_124 rfl 125 rfl ?_
  refine own_ldc2D X hx hby hZ (own_h 40) hown (hw _ (List.mem_of_getElem? (i := 50) rfl)) own_k40 d7_125 128 rfl ?_
  refine own_dastore X hx hby hZ eT A_b115 (by decide) d7_128 129 rfl ?_
  intro T128 h128 X eT W A
  have A_b95 := A_b95.other W ne_b95_b115
  have E_b95 := E_b95.wr W
  have O_b95 := O_b95.wr W
  have A_b101 := A_b101.other W ne_b101_b115
  have E_b101 := E_b101.wr W
  have E_b115 := E_b115.wr W
  have A_b115 : Afn Z h128 b115 .double 2 (upd (upd (fun _ => (.double 0)) 0 (.double (own_h 40))) 1 (.double (own_h 40))) := A
  have N := Fr.snoc X N g_b115
  have K := K.wr W (Or.inr sz_b115)
  have Zs := Nat.le_trans Zs (Keep.of_wr W).1
  refine own_aastore X hx hby hZ eT A_b95 (by decide) rfl rfl (O_b95.sto (Ins.self E_b115)) d7_129 130 rfl ?_
  intro T129 h129 X eT W A
  have E_b95 := E_b95.wr W
  have O_b95 := O_b95.wr W
  have A_b101 := A_b101.other W (Ne.symm ne_b95_b101)
  have E_b101 := E_b101.wr W
  have A_b115 := A_b115.other W (Ne.symm ne_b95_b115)
  have E_b115 := E_b115.wr W
  have A_b95 : Afn Z h129 b95 (.array .double) 2 (upd (upd (fun _ => .null) 0 (.ref b101)) 1 (.ref b115)) := A
  have N := Fr.snoc X N g_b95
  have K := K.wr W (Or.inr sz_b95)
  have Zs := Nat.le_trans Zs (Keep.of_wr W).1
  refine own_astore X hx hby d7_130 rfl (l' := #[.val (.double (own_h kd1)), .second, .val (.double (own_h kd2)), .second, .val (.ref b95)]) rfl 132 rfl ?_
  refine own_goto X hx hby d7_132 204 (by decide) ?_
  refine own_aload X hx hby (.ref b95) d7_204 rfl rfl 206 rfl ?_
  refine own_retA X hx hby hret hlk rfl rfl rfl d7_206 (by decide) (by decide) ?_
  rw [eT]
  exact ⟨b95, b101, b115, rfl, N, K, sz_b95, sz_b101, sz_b115, A_b95, E_b95, A_b101, E_b101, A_b115, E_b115⟩
theorem ef_7_D (kd1 : UInt64) (kd2 : UInt64) (m : MethodId) : entryFrame m #[(.double kd1), (.double kd2)] 5 = mkF m 0 #[.val (.double kd1), .second, .val (.double kd2), .second, .unset] [] := by first | (simp [entryFrame, mkF, argsToLocals, Value.category]; done) | rfl
def Q7_D (Z : State) (kd1 : Nat) (kd2 : Nat) (h0 : Heap) (n0 : Nat) (v : Option Value) (h : Heap) (L : List Loc) : Prop := ∃ (b144 : Addr) (b150 : Addr) (b164 : Addr), v = some (.ref b144) ∧ Fr n0 L ∧ Keep h0 h [] ∧ h0.size ≤ b144 ∧ h0.size ≤ b150 ∧ h0.size ≤ b164 ∧ Afn Z h b144 (.array .double) 2 (upd (upd (fun _ => .null) 0 (.ref b150)) 1 (.ref b164)) ∧ Exa Z h b144 "[[D" ∧ Afn Z h b150 .double 2 (upd (upd (fun _ => (.double 0)) 0 (.double (own_h kd1))) 1 (.double (own_h kd2))) ∧ Exa Z h b150 "[D" ∧ Afn Z h b164 .double 2 (upd (upd (fun _ => (.double 0)) 0 (.double (own_h 760))) 1 (.double (own_h 760))) ∧ Exa Z h b164 "[D"
set_option maxRecDepth 65536 in
set_option maxHeartbeats 40000000 in
theorem rm7_D (l : Launch) (Z : State) (a0 : Array Value) (hw : ∀ d ∈ tables_1, d.before a0 Z = true) (kd1 : Nat) (kd2 : Nat) (h0 : Heap) (n0 : Nat) (Zs : n0 ≤ h0.size) (b_kd1 : kd1 < 801) (b_kd2 : kd2 < 801) (iN : ¬ kd2 < kd1) (i1 : kd1 = 40) (i2 : ¬ kd2 = 760) :
    Met1 l Z (⟨"com/example/kvadtree/kvadtree/Box", "intervals", "(DD)[[D"⟩ : MethodName) prog_2_method_9_code 5 (some (.array (.array .double))) ({ frames := 0, cells := 3, slots := 6, locals := 0 } : Room) #[(.double (own_h kd1)), (.double (own_h kd2))] h0 (Q7_D Z kd1 kd2 h0 n0) := by
  refine own_met_of (plainFor_of_name pn_7) (ef_7_D (own_h kd1) (own_h kd2)) ?_
  intro p e s m below meth c s₁ X hx hby hml hZ hown hnm hret hlk eT
  have hown : s.vm.findClass "com/example/kvadtree/kvadtree/Box" = some m.cls := hown
  have N := Fr.nil n0
  have K := Keep.refl h0 []
  refine own_dloadN X hx hby (own_h kd1) d7_0 rfl 1 rfl ?_
  refine own_dloadN X hx hby (own_h kd2) d7_1 rfl 2 rfl ?_
  have c3 : ¬ kd2 < kd1 := iN
  refine own_dcmp_le X hx hby b_kd1 b_kd2 d7_2 d7_3 47 6 (by decide) rfl (fun _ => ?_) (fun q => absurd q c3)
  refine own_dloadN X hx hby (own_h kd1) d7_47 rfl 48 rfl ?_
  refine own_ldc2D X hx hby hZ (own_h 40) hown (hw _ (List.mem_of_getElem? (i := 50) rfl)) own_k40 d7_48 51 rfl ?_
  have c52 : kd1 = 40 := i1
  refine own_dcmp_ne X hx hby b_kd1 (by decide) d7_51 d7_52 86 55 (by decide) rfl (fun q => absurd c52 q) (fun _ => ?_)
  refine own_dloadN X hx hby (own_h kd2) d7_55 rfl 56 rfl ?_
  refine own_ldc2D X hx hby hZ (own_h 760) hown (hw _ (List.mem_of_getElem? (i := 51) rfl)) own_k760 d7_56 59 rfl ?_
  have c60 : ¬ kd2 = 760 := i2
  refine own_dcmp_ne X hx hby b_kd2 (by decide) d7_59 d7_60 86 63 (by decide) rfl (fun _ => ?_) (fun q => absurd q c60)
  refine own_dloadN X hx hby (own_h kd2) d7_86 rfl 87 rfl ?_
  refine own_ldc2D X hx hby hZ (own_h 760) hown (hw _ (List.mem_of_getElem? (i := 51) rfl)) own_k760 d7_87 90 rfl ?_
  have c91 : ¬ kd2 = 760 := i2
  refine own_dcmp_ne X hx hby b_kd2 (by decide) d7_90 d7_91 135 94 (by decide) rfl (fun _ => ?_) (fun q => absurd q c91)
  refine own_dloadN X hx hby (own_h kd1) d7_135 rfl 136 rfl ?_
  refine own_ldc2D X hx hby hZ (own_h 40) hown (hw _ (List.mem_of_getElem? (i := 50) rfl)) own_k40 d7_136 139 rfl ?_
  have c140 : kd1 = 40 := i1
  refine own_dcmp_ne X hx hby b_kd1 (by decide) d7_139 d7_140 184 143 (by decide) rfl (fun q => absurd c140 q) (fun _ => ?_)
  refine own_iconst X hx hby (2 : Int32) d7_143 rfl 144 rfl ?_
  refine own_anewarrayA X hx hby hZ hown (ty := .double) rfl (hw _ (List.mem_of_getElem? (i := 52) rfl)) (hw _ (List.mem_of_getElem? (i := 53) rfl)) eT d7_144 (z := (2 : Int32)) (by decide) (n := 2) rfl (cap := 2) (by decide) (by decide) (by decide) (by decide) (ad := "[[D") rfl 147 rfl ?_
  intro T144 h144 b144 gb144 X eT Ex A A2 Ov
  have g_b144 : n0 ≤ b144 := by rw [gb144]; exact Zs
  have sz_b144 : h0.size ≤ b144 := by rw [gb144]; exact K.1
  have A_b144 : Afn Z h144 b144 (.array .double) 2 (fun _ => .null) := A
  have E_b144 := A2
  have O_b144 := Ov
  have K := K.ext Ex
  have Zs := Nat.le_trans Zs Ex.1
  refine own_dup X hx hby d7_147 rfl 148 rfl ?_
  refine own_iconst X hx hby (0 : Int32) d7_148 rfl 149 rfl ?_
  refine own_iconst X hx hby (2 : Int32) d7_149 rfl 150 rfl ?_
  refine own_newarray X hx hby hZ (hw _ (List.mem_of_getElem? (i := 54) rfl)) eT d7_150 (z := (2 : Int32)) (by decide) (n := 2) rfl (cap := 2) (by decide) (by decide) (by decide) (by decide) (ad := "[D") rfl 152 rfl ?_
  intro T150 h150 b150 gb150 X eT Ex A A2
  have g_b150 : n0 ≤ b150 := by rw [gb150]; exact Zs
  have sz_b150 : h0.size ≤ b150 := by rw [gb150]; exact K.1
  have ne_b144_b150 : b144 ≠ b150 := Nat.ne_of_lt (by rw [gb150]; exact A_b144.lt)
  have A_b144 := A_b144.ext Ex
  have E_b144 := E_b144.ext Ex
  have O_b144 := O_b144.ext Ex
  have A_b150 : Afn Z h150 b150 .double 2 (fun _ => (.double 0)) := A
  have E_b150 := A2
  have K := K.ext Ex
  have Zs := Nat.le_trans Zs Ex.1
  refine own_dup X hx hby d7_152 rfl 153 rfl ?_
  refine own_iconst X hx hby (0 : Int32) d7_153 rfl 154 rfl ?_
  refine own_dloadN X hx hby (own_h kd1) d7_154 rfl 155 rfl ?_
  refine own_dastore X hx hby hZ eT A_b150 (by decide) d7_155 156 rfl ?_
  intro T155 h155 X eT W A
  have A_b144 := A_b144.other W ne_b144_b150
  have E_b144 := E_b144.wr W
  have O_b144 := O_b144.wr W
  have E_b150 := E_b150.wr W
  have A_b150 : Afn Z h155 b150 .double 2 (upd (fun _ => (.double 0)) 0 (.double (own_h kd1))) := A
  have N := Fr.snoc X N g_b150
  have K := K.wr W (Or.inr sz_b150)
  have Zs := Nat.le_trans Zs (Keep.of_wr W).1
  refine own_dup X hx hby d7_156 rfl 157 rfl ?_
  refine own_iconst X hx hby (1 : Int32) d7_157 rfl 158 rfl ?_
  refine own_dloadN X hx hby (own_h kd2) d7_158 rfl 159 rfl ?_
  refine own_dastore X hx hby hZ eT A_b150 (by decide) d7_159 160 rfl ?_
  intro T159 h159 X eT W A
  have A_b144 := A_b144.other W ne_b144_b150
  have E_b144 := E_b144.wr W
  have O_b144 := O_b144.wr W
  have E_b150 := E_b150.wr W
  have A_b150 : Afn Z h159 b150 .double 2 (upd (upd (fun _ => (.double 0)) 0 (.double (own_h kd1))) 1 (.double (own_h kd2))) := A
  have N := Fr.snoc X N g_b150
  have K := K.wr W (Or.inr sz_b150)
  have Zs := Nat.le_trans Zs (Keep.of_wr W).1
  refine own_aastore X hx hby hZ eT A_b144 (by decide) rfl rfl (O_b144.sto (Ins.self E_b150)) d7_160 161 rfl ?_
  intro T160 h160 X eT W A
  have E_b144 := E_b144.wr W
  have O_b144 := O_b144.wr W
  have A_b150 := A_b150.other W (Ne.symm ne_b144_b150)
  have E_b150 := E_b150.wr W
  have A_b144 : Afn Z h160 b144 (.array .double) 2 (upd (fun _ => .null) 0 (.ref b150)) := A
  have N := Fr.snoc X N g_b144
  have K := K.wr W (Or.inr sz_b144)
  have Zs := Nat.le_trans Zs (Keep.of_wr W).1
  refine own_dup X hx hby d7_161 rfl 162 rfl ?_
  refine own_iconst X hx hby (1 : Int32) d7_162 rfl 163 rfl ?_
  refine own_iconst X hx hby (2 : Int32) d7_163 rfl 164 rfl ?_
  refine own_newarray X hx hby hZ (hw _ (List.mem_of_getElem? (i := 54) rfl)) eT d7_164 (z := (2 : Int32)) (by decide) (n := 2) rfl (cap := 2) (by decide) (by decide) (by decide) (by decide) (ad := "[D") rfl 166 rfl ?_
  intro T164 h164 b164 gb164 X eT Ex A A2
  have g_b164 : n0 ≤ b164 := by rw [gb164]; exact Zs
  have sz_b164 : h0.size ≤ b164 := by rw [gb164]; exact K.1
  have ne_b150_b164 : b150 ≠ b164 := Nat.ne_of_lt (by rw [gb164]; exact A_b150.lt)
  have ne_b144_b164 : b144 ≠ b164 := Nat.ne_of_lt (by rw [gb164]; exact A_b144.lt)
  have A_b144 := A_b144.ext Ex
  have E_b144 := E_b144.ext Ex
  have O_b144 := O_b144.ext Ex
  have A_b150 := A_b150.ext Ex
  have E_b150 := E_b150.ext Ex
  have A_b164 : Afn Z h164 b164 .double 2 (fun _ => (.double 0)) := A
  have E_b164 := A2
  have K := K.ext Ex
  have Zs := Nat.le_trans Zs Ex.1
  refine own_dup X hx hby d7_166 rfl 167 rfl ?_
  refine own_iconst X hx hby (0 : Int32) d7_167 rfl 168 rfl ?_
  refine own_ldc2D X hx hby hZ (own_h 760) hown (hw _ (List.mem_of_getElem? (i := 51) rfl)) own_k760 d7_168 171 rfl ?_
  refine own_dastore X hx hby hZ eT A_b164 (by decide) d7_171 172 rfl ?_
  intro T171 h171 X eT W A
  have A_b144 := A_b144.other W ne_b144_b164
  have E_b144 := E_b144.wr W
  have O_b144 := O_b144.wr W
  have A_b150 := A_b150.other W ne_b150_b164
  have E_b150 := E_b150.wr W
  have E_b164 := E_b164.wr W
  have A_b164 : Afn Z h171 b164 .double 2 (upd (fun _ => (.double 0)) 0 (.double (own_h 760))) := A
  have N := Fr.snoc X N g_b164
  have K := K.wr W (Or.inr sz_b164)
  have Zs := Nat.le_trans Zs (Keep.of_wr W).1
  refine own_dup X hx hby d7_172 rfl 173 rfl ?_
  refine own_iconst X hx hby (1 : Int32) d7_173 rfl 174 rfl ?_
  refine own_ldc2D X hx hby hZ (own_h 760) hown (hw _ (List.mem_of_getElem? (i := 51) rfl)) own_k760 d7_174 177 rfl ?_
  refine own_dastore X hx hby hZ eT A_b164 (by decide) d7_177 178 rfl ?_
  intro T177 h177 X eT W A
  have A_b144 := A_b144.other W ne_b144_b164
  have E_b144 := E_b144.wr W
  have O_b144 := O_b144.wr W
  have A_b150 := A_b150.other W ne_b150_b164
  have E_b150 := E_b150.wr W
  have E_b164 := E_b164.wr W
  have A_b164 : Afn Z h177 b164 .double 2 (upd (upd (fun _ => (.double 0)) 0 (.double (own_h 760))) 1 (.double (own_h 760))) := A
  have N := Fr.snoc X N g_b164
  have K := K.wr W (Or.inr sz_b164)
  have Zs := Nat.le_trans Zs (Keep.of_wr W).1
  refine own_aastore X hx hby hZ eT A_b144 (by decide) rfl rfl (O_b144.sto (Ins.self E_b164)) d7_178 179 rfl ?_
  intro T178 h178 X eT W A
  have E_b144 := E_b144.wr W
  have O_b144 := O_b144.wr W
  have A_b150 := A_b150.other W (Ne.symm ne_b144_b150)
  have E_b150 := E_b150.wr W
  have A_b164 := A_b164.other W (Ne.symm ne_b144_b164)
  have E_b164 := E_b164.wr W
  have A_b144 : Afn Z h178 b144 (.array .double) 2 (upd (upd (fun _ => .null) 0 (.ref b150)) 1 (.ref b164)) := A
  have N := Fr.snoc X N g_b144
  have K := K.wr W (Or.inr sz_b144)
  have Zs := Nat.le_trans Zs (Keep.of_wr W).1
  refine own_astore X hx hby d7_179 rfl (l' := #[.val (.double (own_h kd1)), .second, .val (.double (own_h kd2)), .second, .val (.ref b144)]) rfl 181 rfl ?_
  refine own_goto X hx hby d7_181 204 (by decide) ?_
  refine own_aload X hx hby (.ref b144) d7_204 rfl rfl 206 rfl ?_
  refine own_retA X hx hby hret hlk rfl rfl rfl d7_206 (by decide) (by decide) ?_
  rw [eT]
  exact ⟨b144, b150, b164, rfl, N, K, sz_b144, sz_b150, sz_b164, A_b144, E_b144, A_b150, E_b150, A_b164, E_b164⟩
theorem ef_7_E (kd1 : UInt64) (kd2 : UInt64) (m : MethodId) : entryFrame m #[(.double kd1), (.double kd2)] 5 = mkF m 0 #[.val (.double kd1), .second, .val (.double kd2), .second, .unset] [] := by first | (simp [entryFrame, mkF, argsToLocals, Value.category]; done) | rfl
def Q7_E (Z : State) (kd1 : Nat) (kd2 : Nat) (h0 : Heap) (n0 : Nat) (v : Option Value) (h : Heap) (L : List Loc) : Prop := ∃ (b185 : Addr) (b191 : Addr), v = some (.ref b185) ∧ Fr n0 L ∧ Keep h0 h [] ∧ h0.size ≤ b185 ∧ h0.size ≤ b191 ∧ Afn Z h b185 (.array .double) 1 (upd (fun _ => .null) 0 (.ref b191)) ∧ Exa Z h b185 "[[D" ∧ Afn Z h b191 .double 2 (upd (upd (fun _ => (.double 0)) 0 (.double (own_h kd1))) 1 (.double (own_h kd2))) ∧ Exa Z h b191 "[D"
set_option maxRecDepth 65536 in
set_option maxHeartbeats 40000000 in
theorem rm7_E (l : Launch) (Z : State) (a0 : Array Value) (hw : ∀ d ∈ tables_1, d.before a0 Z = true) (kd1 : Nat) (kd2 : Nat) (h0 : Heap) (n0 : Nat) (Zs : n0 ≤ h0.size) (b_kd1 : kd1 < 801) (b_kd2 : kd2 < 801) (iN : ¬ kd2 < kd1) (i1 : ¬ kd1 = 40) (i2 : ¬ kd2 = 760) :
    Met1 l Z (⟨"com/example/kvadtree/kvadtree/Box", "intervals", "(DD)[[D"⟩ : MethodName) prog_2_method_9_code 5 (some (.array (.array .double))) ({ frames := 0, cells := 2, slots := 3, locals := 0 } : Room) #[(.double (own_h kd1)), (.double (own_h kd2))] h0 (Q7_E Z kd1 kd2 h0 n0) := by
  refine own_met_of (plainFor_of_name pn_7) (ef_7_E (own_h kd1) (own_h kd2)) ?_
  intro p e s m below meth c s₁ X hx hby hml hZ hown hnm hret hlk eT
  have hown : s.vm.findClass "com/example/kvadtree/kvadtree/Box" = some m.cls := hown
  have N := Fr.nil n0
  have K := Keep.refl h0 []
  refine own_dloadN X hx hby (own_h kd1) d7_0 rfl 1 rfl ?_
  refine own_dloadN X hx hby (own_h kd2) d7_1 rfl 2 rfl ?_
  have c3 : ¬ kd2 < kd1 := iN
  refine own_dcmp_le X hx hby b_kd1 b_kd2 d7_2 d7_3 47 6 (by decide) rfl (fun _ => ?_) (fun q => absurd q c3)
  refine own_dloadN X hx hby (own_h kd1) d7_47 rfl 48 rfl ?_
  refine own_ldc2D X hx hby hZ (own_h 40) hown (hw _ (List.mem_of_getElem? (i := 50) rfl)) own_k40 d7_48 51 rfl ?_
  have c52 : ¬ kd1 = 40 := i1
  refine own_dcmp_ne X hx hby b_kd1 (by decide) d7_51 d7_52 86 55 (by decide) rfl (fun _ => ?_) (fun q => absurd q c52)
  refine own_dloadN X hx hby (own_h kd2) d7_86 rfl 87 rfl ?_
  refine own_ldc2D X hx hby hZ (own_h 760) hown (hw _ (List.mem_of_getElem? (i := 51) rfl)) own_k760 d7_87 90 rfl ?_
  have c91 : ¬ kd2 = 760 := i2
  refine own_dcmp_ne X hx hby b_kd2 (by decide) d7_90 d7_91 135 94 (by decide) rfl (fun _ => ?_) (fun q => absurd q c91)
  refine own_dloadN X hx hby (own_h kd1) d7_135 rfl 136 rfl ?_
  refine own_ldc2D X hx hby hZ (own_h 40) hown (hw _ (List.mem_of_getElem? (i := 50) rfl)) own_k40 d7_136 139 rfl ?_
  have c140 : ¬ kd1 = 40 := i1
  refine own_dcmp_ne X hx hby b_kd1 (by decide) d7_139 d7_140 184 143 (by decide) rfl (fun _ => ?_) (fun q => absurd q c140)
  refine own_iconst X hx hby (1 : Int32) d7_184 rfl 185 rfl ?_
  refine own_anewarrayA X hx hby hZ hown (ty := .double) rfl (hw _ (List.mem_of_getElem? (i := 52) rfl)) (hw _ (List.mem_of_getElem? (i := 53) rfl)) eT d7_185 (z := (1 : Int32)) (by decide) (n := 1) rfl (cap := 1) (by decide) (by decide) (by decide) (by decide) (ad := "[[D") rfl 188 rfl ?_
  intro T185 h185 b185 gb185 X eT Ex A A2 Ov
  have g_b185 : n0 ≤ b185 := by rw [gb185]; exact Zs
  have sz_b185 : h0.size ≤ b185 := by rw [gb185]; exact K.1
  have A_b185 : Afn Z h185 b185 (.array .double) 1 (fun _ => .null) := A
  have E_b185 := A2
  have O_b185 := Ov
  have K := K.ext Ex
  have Zs := Nat.le_trans Zs Ex.1
  refine own_dup X hx hby d7_188 rfl 189 rfl ?_
  refine own_iconst X hx hby (0 : Int32) d7_189 rfl 190 rfl ?_
  refine own_iconst X hx hby (2 : Int32) d7_190 rfl 191 rfl ?_
  refine own_newarray X hx hby hZ (hw _ (List.mem_of_getElem? (i := 54) rfl)) eT d7_191 (z := (2 : Int32)) (by decide) (n := 2) rfl (cap := 2) (by decide) (by decide) (by decide) (by decide) (ad := "[D") rfl 193 rfl ?_
  intro T191 h191 b191 gb191 X eT Ex A A2
  have g_b191 : n0 ≤ b191 := by rw [gb191]; exact Zs
  have sz_b191 : h0.size ≤ b191 := by rw [gb191]; exact K.1
  have ne_b185_b191 : b185 ≠ b191 := Nat.ne_of_lt (by rw [gb191]; exact A_b185.lt)
  have A_b185 := A_b185.ext Ex
  have E_b185 := E_b185.ext Ex
  have O_b185 := O_b185.ext Ex
  have A_b191 : Afn Z h191 b191 .double 2 (fun _ => (.double 0)) := A
  have E_b191 := A2
  have K := K.ext Ex
  have Zs := Nat.le_trans Zs Ex.1
  refine own_dup X hx hby d7_193 rfl 194 rfl ?_
  refine own_iconst X hx hby (0 : Int32) d7_194 rfl 195 rfl ?_
  refine own_dloadN X hx hby (own_h kd1) d7_195 rfl 196 rfl ?_
  refine own_dastore X hx hby hZ eT A_b191 (by decide) d7_196 197 rfl ?_
  intro T196 h196 X eT W A
  have A_b185 := A_b185.other W ne_b185_b191
  have E_b185 := E_b185.wr W
  have O_b185 := O_b185.wr W
  have E_b191 := E_b191.wr W
  have A_b191 : Afn Z h196 b191 .double 2 (upd (fun _ => (.double 0)) 0 (.double (own_h kd1))) := A
  have N := Fr.snoc X N g_b191
  have K := K.wr W (Or.inr sz_b191)
  have Zs := Nat.le_trans Zs (Keep.of_wr W).1
  refine own_dup X hx hby d7_197 rfl 198 rfl ?_
  refine own_iconst X hx hby (1 : Int32) d7_198 rfl 199 rfl ?_
  refine own_dloadN X hx hby (own_h kd2) d7_199 rfl 200 rfl ?_
  refine own_dastore X hx hby hZ eT A_b191 (by decide) d7_200 201 rfl ?_
  intro T200 h200 X eT W A
  have A_b185 := A_b185.other W ne_b185_b191
  have E_b185 := E_b185.wr W
  have O_b185 := O_b185.wr W
  have E_b191 := E_b191.wr W
  have A_b191 : Afn Z h200 b191 .double 2 (upd (upd (fun _ => (.double 0)) 0 (.double (own_h kd1))) 1 (.double (own_h kd2))) := A
  have N := Fr.snoc X N g_b191
  have K := K.wr W (Or.inr sz_b191)
  have Zs := Nat.le_trans Zs (Keep.of_wr W).1
  refine own_aastore X hx hby hZ eT A_b185 (by decide) rfl rfl (O_b185.sto (Ins.self E_b191)) d7_201 202 rfl ?_
  intro T201 h201 X eT W A
  have E_b185 := E_b185.wr W
  have O_b185 := O_b185.wr W
  have A_b191 := A_b191.other W (Ne.symm ne_b185_b191)
  have E_b191 := E_b191.wr W
  have A_b185 : Afn Z h201 b185 (.array .double) 1 (upd (fun _ => .null) 0 (.ref b191)) := A
  have N := Fr.snoc X N g_b185
  have K := K.wr W (Or.inr sz_b185)
  have Zs := Nat.le_trans Zs (Keep.of_wr W).1
  refine own_astore X hx hby d7_202 rfl (l' := #[.val (.double (own_h kd1)), .second, .val (.double (own_h kd2)), .second, .val (.ref b185)]) rfl 204 rfl ?_
  refine own_aload X hx hby (.ref b185) d7_204 rfl rfl 206 rfl ?_
  refine own_retA X hx hby hret hlk rfl rfl rfl d7_206 (by decide) (by decide) ?_
  rw [eT]
  exact ⟨b185, b191, rfl, N, K, sz_b185, sz_b191, A_b185, E_b185, A_b191, E_b191⟩
theorem ef_3_A (a1 : Addr) (kd2 : UInt64) (kd3 : UInt64) (kd4 : UInt64) (kd5 : UInt64) (m : MethodId) : entryFrame m #[(.ref a1), (.double kd2), (.double kd3), (.double kd4), (.double kd5)] 9 = mkF m 0 #[.val (.ref a1), .val (.double kd2), .second, .val (.double kd3), .second, .val (.double kd4), .second, .val (.double kd5), .second] [] := by first | (simp [entryFrame, mkF, argsToLocals, Value.category]; done) | rfl
def Q3_A (Z : State) (a1 : Addr) (kd2 : Nat) (kd3 : Nat) (kd4 : Nat) (kd5 : Nat) (w_west_a1 : Nat) (w_south_a1 : Nat) (w_east_a1 : Nat) (w_north_a1 : Nat) (w_intervals_a1 : Value) (h0 : Heap) (n0 : Nat) (v : Option Value) (h : Heap) (L : List Loc) : Prop := ∃ (b79b7 : Addr) (b79b13 : Addr) (b79b29 : Addr), v = none ∧ Fr n0 L ∧ Keep h0 h [a1] ∧ h0.size ≤ b79b7 ∧ h0.size ≤ b79b13 ∧ h0.size ≤ b79b29 ∧ Exa Z h a1 "com/example/kvadtree/kvadtree/Box" ∧ Fld Z h a1 "com/example/kvadtree/kvadtree/Box" "west" "D" (.double (own_h kd2)) ∧ Fld Z h a1 "com/example/kvadtree/kvadtree/Box" "south" "D" (.double (own_h kd3)) ∧ Fld Z h a1 "com/example/kvadtree/kvadtree/Box" "east" "D" (.double (own_h kd4)) ∧ Fld Z h a1 "com/example/kvadtree/kvadtree/Box" "north" "D" (.double (own_h kd5)) ∧ Fld Z h a1 "com/example/kvadtree/kvadtree/Box" "intervals" "[[D" (.ref b79b7) ∧ Afn Z h b79b7 (.array .double) 2 (upd (upd (fun _ => .null) 0 (.ref b79b13)) 1 (.ref b79b29)) ∧ Exa Z h b79b7 "[[D" ∧ Afn Z h b79b13 .double 2 (upd (upd (fun _ => (.double 0)) 0 (.double (own_h kd2))) 1 (.double (own_h 760))) ∧ Exa Z h b79b13 "[D" ∧ Afn Z h b79b29 .double 2 (upd (upd (fun _ => (.double 0)) 0 (.double (own_h 40))) 1 (.double (own_h kd4))) ∧ Exa Z h b79b29 "[D"
set_option maxRecDepth 65536 in
set_option maxHeartbeats 40000000 in
theorem rm3_A (l : Launch) (Z : State) (a0 : Array Value) (hw : ∀ d ∈ tables_1, d.before a0 Z = true) (a1 : Addr) (kd2 : Nat) (kd3 : Nat) (kd4 : Nat) (kd5 : Nat) (w_west_a1 : Nat) (w_south_a1 : Nat) (w_east_a1 : Nat) (w_north_a1 : Nat) (w_intervals_a1 : Value) (h0 : Heap) (n0 : Nat) (Zs : n0 ≤ h0.size) (b_kd2 : kd2 < 801) (b_kd3 : kd3 < 801) (b_kd4 : kd4 < 801) (b_kd5 : kd5 < 801) (hw1 : ¬ kd2 < 40) (hw2 : ¬ 760 < kd2) (hs1 : ¬ kd3 < 220) (hs2 : ¬ 580 < kd3) (he1 : ¬ kd4 < 40) (he2 : ¬ 760 < kd4) (hn1 : ¬ kd5 < 220) (hn2 : ¬ 580 < kd5) (hsn : ¬ kd5 < kd3) (iA : kd4 < kd2) (E_a1 : Exa Z h0 a1 "com/example/kvadtree/kvadtree/Box") (b_w_west_a1 : w_west_a1 < 801) (F_west_a1 : Fld Z h0 a1 "com/example/kvadtree/kvadtree/Box" "west" "D" (.double (own_h w_west_a1))) (b_w_south_a1 : w_south_a1 < 801) (F_south_a1 : Fld Z h0 a1 "com/example/kvadtree/kvadtree/Box" "south" "D" (.double (own_h w_south_a1))) (b_w_east_a1 : w_east_a1 < 801) (F_east_a1 : Fld Z h0 a1 "com/example/kvadtree/kvadtree/Box" "east" "D" (.double (own_h w_east_a1))) (b_w_north_a1 : w_north_a1 < 801) (F_north_a1 : Fld Z h0 a1 "com/example/kvadtree/kvadtree/Box" "north" "D" (.double (own_h w_north_a1))) (F_intervals_a1 : Fld Z h0 a1 "com/example/kvadtree/kvadtree/Box" "intervals" "[[D" w_intervals_a1) (g_a1 : n0 ≤ a1) :
    Met1W l Z (⟨"com/example/kvadtree/kvadtree/Box", "<init>", "(DDDD)V"⟩ : MethodName) prog_2_method_1_code 9 none ({ frames := 1, cells := 11, slots := 94, locals := 17 } : Room) #[(.ref a1), (.double (own_h kd2)), (.double (own_h kd3)), (.double (own_h kd4)), (.double (own_h kd5))] h0 (Q3_A Z a1 kd2 kd3 kd4 kd5 w_west_a1 w_south_a1 w_east_a1 w_north_a1 w_intervals_a1 h0 n0) := by
  refine own_met_ofW (plainFor_of_name pn_7) (ef_3_A a1 (own_h kd2) (own_h kd3) (own_h kd4) (own_h kd5)) ?_
  intro p e s m below meth c s₁ vm0 X hx hby hml hZ hown hnm hret hlk eT hS hs0
  have hown : (s.setVm vm0).vm.findClass "com/example/kvadtree/kvadtree/Box" = some m.cls := hown
  have hk : 0 ≤ h0.size := Nat.zero_le _
  have N := Fr.nil n0
  have K := Keep.refl h0 [a1]
  refine own_aloadN X hx hby (.ref a1) d3_0 rfl rfl 1 rfl ?_
  refine own_initO X hx hby hZ hown (hw _ (List.mem_of_getElem? (i := 14) rfl)) (hw _ (List.mem_of_getElem? (i := 15) rfl)) (hw _ (List.mem_of_getElem? (i := 16) rfl)) eT (by rw [hml]; rfl) d3_1 (by decide) 0 rfl (by decide) 4 rfl ?_
  intro T1 X eT
  refine own_ldcS X hx hby hZ hown (hw _ (List.mem_of_getElem? (i := 17) rfl)) (own_wS hw) eT hS hk d3_4 16 (by decide) (by decide) (by decide) (by decide) 6 rfl ?_
  intro T4 h4 lit4 vm4 k4 X eT Ex hS hk hZ hown
  have E_a1 := E_a1.ext Ex
  have F_west_a1 := F_west_a1.ext Ex
  have F_south_a1 := F_south_a1.ext Ex
  have F_east_a1 := F_east_a1.ext Ex
  have F_north_a1 := F_north_a1.ext Ex
  have F_intervals_a1 := F_intervals_a1.ext Ex
  have K := K.ext Ex
  have Zs := Nat.le_trans Zs Ex.1
  refine own_dloadN X hx hby (own_h kd2) d3_6 rfl 7 rfl ?_
  refine own_callS X hx hby hZ (st := []) [(.ref lit4), (.double (own_h kd2))] rfl hown (hw _ (List.mem_of_getElem? (i := 25) rfl)) (hw _ (List.mem_of_getElem? (i := 26) rfl)) (hw _ (List.mem_of_getElem? (i := 27) rfl)) (hw _ (List.mem_of_getElem? (i := 28) rfl)) (by decide) d3_7 (rm5 l Z a0 hw lit4 kd2 h4 n0 Zs b_kd2 hw1 hw2) eT pd_6 rfl (by rw [hml]; rfl) (by decide) 0 rfl (by decide) (by decide) (by decide) 10 rfl ?_
  intro T7 L9 v9 X hQ
  obtain ⟨rfl, N9, eT⟩ := hQ
  have N := Fr.app N N9
  show Go p e below _ T7 (mkF m 10 #[.val (.ref a1), .val (.double (own_h kd2)), .second, .val (.double (own_h kd3)), .second, .val (.double (own_h kd4)), .second, .val (.double (own_h kd5)), .second] [])
  refine own_ldcS X hx hby hZ hown (hw _ (List.mem_of_getElem? (i := 31) rfl)) (own_wS hw) eT hS hk d3_10 20 (by decide) (by decide) (by decide) (by decide) 12 rfl ?_
  intro T10 h10 lit10 vm10 k10 X eT Ex hS hk hZ hown
  have E_a1 := E_a1.ext Ex
  have F_west_a1 := F_west_a1.ext Ex
  have F_south_a1 := F_south_a1.ext Ex
  have F_east_a1 := F_east_a1.ext Ex
  have F_north_a1 := F_north_a1.ext Ex
  have F_intervals_a1 := F_intervals_a1.ext Ex
  have K := K.ext Ex
  have Zs := Nat.le_trans Zs Ex.1
  refine own_dloadN X hx hby (own_h kd3) d3_12 rfl 13 rfl ?_
  refine own_callS X hx hby hZ (st := []) [(.ref lit10), (.double (own_h kd3))] rfl hown (hw _ (List.mem_of_getElem? (i := 32) rfl)) (hw _ (List.mem_of_getElem? (i := 33) rfl)) (hw _ (List.mem_of_getElem? (i := 27) rfl)) (hw _ (List.mem_of_getElem? (i := 34) rfl)) (by decide) d3_13 (rm6 l Z a0 hw lit10 kd3 h10 n0 Zs b_kd3 hs1 hs2) eT pd_6 rfl (by rw [hml]; rfl) (by decide) 0 rfl (by decide) (by decide) (by decide) 16 rfl ?_
  intro T13 L9 v9 X hQ
  obtain ⟨rfl, N9, eT⟩ := hQ
  have N := Fr.app N N9
  show Go p e below _ T13 (mkF m 16 #[.val (.ref a1), .val (.double (own_h kd2)), .second, .val (.double (own_h kd3)), .second, .val (.double (own_h kd4)), .second, .val (.double (own_h kd5)), .second] [])
  refine own_ldcS X hx hby hZ hown (hw _ (List.mem_of_getElem? (i := 37) rfl)) (own_wS hw) eT hS hk d3_16 16 (by decide) (by decide) (by decide) (by decide) 18 rfl ?_
  intro T16 h16 lit16 vm16 k16 X eT Ex hS hk hZ hown
  have E_a1 := E_a1.ext Ex
  have F_west_a1 := F_west_a1.ext Ex
  have F_south_a1 := F_south_a1.ext Ex
  have F_east_a1 := F_east_a1.ext Ex
  have F_north_a1 := F_north_a1.ext Ex
  have F_intervals_a1 := F_intervals_a1.ext Ex
  have K := K.ext Ex
  have Zs := Nat.le_trans Zs Ex.1
  refine own_dload X hx hby (own_h kd4) d3_18 rfl 20 rfl ?_
  refine own_callS X hx hby hZ (st := []) [(.ref lit16), (.double (own_h kd4))] rfl hown (hw _ (List.mem_of_getElem? (i := 25) rfl)) (hw _ (List.mem_of_getElem? (i := 26) rfl)) (hw _ (List.mem_of_getElem? (i := 27) rfl)) (hw _ (List.mem_of_getElem? (i := 28) rfl)) (by decide) d3_20 (rm5 l Z a0 hw lit16 kd4 h16 n0 Zs b_kd4 he1 he2) eT pd_6 rfl (by rw [hml]; rfl) (by decide) 0 rfl (by decide) (by decide) (by decide) 23 rfl ?_
  intro T20 L9 v9 X hQ
  obtain ⟨rfl, N9, eT⟩ := hQ
  have N := Fr.app N N9
  show Go p e below _ T20 (mkF m 23 #[.val (.ref a1), .val (.double (own_h kd2)), .second, .val (.double (own_h kd3)), .second, .val (.double (own_h kd4)), .second, .val (.double (own_h kd5)), .second] [])
  refine own_ldcS X hx hby hZ hown (hw _ (List.mem_of_getElem? (i := 38) rfl)) (own_wS hw) eT hS hk d3_23 20 (by decide) (by decide) (by decide) (by decide) 25 rfl ?_
  intro T23 h23 lit23 vm23 k23 X eT Ex hS hk hZ hown
  have E_a1 := E_a1.ext Ex
  have F_west_a1 := F_west_a1.ext Ex
  have F_south_a1 := F_south_a1.ext Ex
  have F_east_a1 := F_east_a1.ext Ex
  have F_north_a1 := F_north_a1.ext Ex
  have F_intervals_a1 := F_intervals_a1.ext Ex
  have K := K.ext Ex
  have Zs := Nat.le_trans Zs Ex.1
  refine own_dload X hx hby (own_h kd5) d3_25 rfl 27 rfl ?_
  refine own_callS X hx hby hZ (st := []) [(.ref lit23), (.double (own_h kd5))] rfl hown (hw _ (List.mem_of_getElem? (i := 32) rfl)) (hw _ (List.mem_of_getElem? (i := 33) rfl)) (hw _ (List.mem_of_getElem? (i := 27) rfl)) (hw _ (List.mem_of_getElem? (i := 34) rfl)) (by decide) d3_27 (rm6 l Z a0 hw lit23 kd5 h23 n0 Zs b_kd5 hn1 hn2) eT pd_6 rfl (by rw [hml]; rfl) (by decide) 0 rfl (by decide) (by decide) (by decide) 30 rfl ?_
  intro T27 L9 v9 X hQ
  obtain ⟨rfl, N9, eT⟩ := hQ
  have N := Fr.app N N9
  show Go p e below _ T27 (mkF m 30 #[.val (.ref a1), .val (.double (own_h kd2)), .second, .val (.double (own_h kd3)), .second, .val (.double (own_h kd4)), .second, .val (.double (own_h kd5)), .second] [])
  refine own_dloadN X hx hby (own_h kd3) d3_30 rfl 31 rfl ?_
  refine own_dload X hx hby (own_h kd5) d3_31 rfl 33 rfl ?_
  have c34 : ¬ kd5 < kd3 := hsn
  refine own_dcmp_le X hx hby b_kd3 b_kd5 d3_33 d3_34 53 37 (by decide) rfl (fun _ => ?_) (fun q => absurd q c34)
  refine own_aloadN X hx hby (.ref a1) d3_53 rfl rfl 54 rfl ?_
  refine own_dloadN X hx hby (own_h kd2) d3_54 rfl 55 rfl ?_
  refine own_putF X hx hby hZ hown (host := "") (Or.inl (hw _ (List.mem_of_getElem? (i := 39) rfl))) Via.refl eT F_west_a1 E_a1 (Or.inr ⟨(hw _ (List.mem_of_getElem? (i := 40) rfl)), rfl, hnm⟩) (hw _ (List.mem_of_getElem? (i := 9) rfl)) (ty := .double) (by decide) rfl rfl d3_55 58 rfl ?_
  intro T55 h55 X eT W
  have hk := Nat.le_trans hk (Keep.of_wr W).1
  have E_a1 := E_a1.wr W
  have F_west_a1 := F_west_a1.same W
  have F_south_a1 := F_south_a1.other W (Or.inr (slot_ne (Or.inr (hw _ (List.mem_of_getElem? (i := 42) rfl))) (Or.inr (hw _ (List.mem_of_getElem? (i := 40) rfl))) (by decide) (t := .double) (t' := .double) (by decide) (by decide)))
  have F_east_a1 := F_east_a1.other W (Or.inr (slot_ne (Or.inr (hw _ (List.mem_of_getElem? (i := 44) rfl))) (Or.inr (hw _ (List.mem_of_getElem? (i := 40) rfl))) (by decide) (t := .double) (t' := .double) (by decide) (by decide)))
  have F_north_a1 := F_north_a1.other W (Or.inr (slot_ne (Or.inr (hw _ (List.mem_of_getElem? (i := 46) rfl))) (Or.inr (hw _ (List.mem_of_getElem? (i := 40) rfl))) (by decide) (t := .double) (t' := .double) (by decide) (by decide)))
  have F_intervals_a1 := F_intervals_a1.other W (Or.inr (slot_ne (Or.inr (hw _ (List.mem_of_getElem? (i := 57) rfl))) (Or.inr (hw _ (List.mem_of_getElem? (i := 40) rfl))) (by decide) (t := (.array (.array .double))) (t' := .double) (by decide) (by decide)))
  have N := Fr.snoc X N g_a1
  have K := K.wr W (Or.inl (List.mem_of_getElem? (i := 0) rfl))
  have Zs := Nat.le_trans Zs (Keep.of_wr W).1
  refine own_aloadN X hx hby (.ref a1) d3_58 rfl rfl 59 rfl ?_
  refine own_dloadN X hx hby (own_h kd3) d3_59 rfl 60 rfl ?_
  refine own_putF X hx hby hZ hown (host := "") (Or.inl (hw _ (List.mem_of_getElem? (i := 41) rfl))) Via.refl eT F_south_a1 E_a1 (Or.inr ⟨(hw _ (List.mem_of_getElem? (i := 42) rfl)), rfl, hnm⟩) (hw _ (List.mem_of_getElem? (i := 9) rfl)) (ty := .double) (by decide) rfl rfl d3_60 63 rfl ?_
  intro T60 h60 X eT W
  have hk := Nat.le_trans hk (Keep.of_wr W).1
  have E_a1 := E_a1.wr W
  have F_west_a1 := F_west_a1.other W (Or.inr (slot_ne (Or.inr (hw _ (List.mem_of_getElem? (i := 40) rfl))) (Or.inr (hw _ (List.mem_of_getElem? (i := 42) rfl))) (by decide) (t := .double) (t' := .double) (by decide) (by decide)))
  have F_south_a1 := F_south_a1.same W
  have F_east_a1 := F_east_a1.other W (Or.inr (slot_ne (Or.inr (hw _ (List.mem_of_getElem? (i := 44) rfl))) (Or.inr (hw _ (List.mem_of_getElem? (i := 42) rfl))) (by decide) (t := .double) (t' := .double) (by decide) (by decide)))
  have F_north_a1 := F_north_a1.other W (Or.inr (slot_ne (Or.inr (hw _ (List.mem_of_getElem? (i := 46) rfl))) (Or.inr (hw _ (List.mem_of_getElem? (i := 42) rfl))) (by decide) (t := .double) (t' := .double) (by decide) (by decide)))
  have F_intervals_a1 := F_intervals_a1.other W (Or.inr (slot_ne (Or.inr (hw _ (List.mem_of_getElem? (i := 57) rfl))) (Or.inr (hw _ (List.mem_of_getElem? (i := 42) rfl))) (by decide) (t := (.array (.array .double))) (t' := .double) (by decide) (by decide)))
  have N := Fr.snoc X N g_a1
  have K := K.wr W (Or.inl (List.mem_of_getElem? (i := 0) rfl))
  have Zs := Nat.le_trans Zs (Keep.of_wr W).1
  refine own_aloadN X hx hby (.ref a1) d3_63 rfl rfl 64 rfl ?_
  refine own_dload X hx hby (own_h kd4) d3_64 rfl 66 rfl ?_
  refine own_putF X hx hby hZ hown (host := "") (Or.inl (hw _ (List.mem_of_getElem? (i := 43) rfl))) Via.refl eT F_east_a1 E_a1 (Or.inr ⟨(hw _ (List.mem_of_getElem? (i := 44) rfl)), rfl, hnm⟩) (hw _ (List.mem_of_getElem? (i := 9) rfl)) (ty := .double) (by decide) rfl rfl d3_66 69 rfl ?_
  intro T66 h66 X eT W
  have hk := Nat.le_trans hk (Keep.of_wr W).1
  have E_a1 := E_a1.wr W
  have F_west_a1 := F_west_a1.other W (Or.inr (slot_ne (Or.inr (hw _ (List.mem_of_getElem? (i := 40) rfl))) (Or.inr (hw _ (List.mem_of_getElem? (i := 44) rfl))) (by decide) (t := .double) (t' := .double) (by decide) (by decide)))
  have F_south_a1 := F_south_a1.other W (Or.inr (slot_ne (Or.inr (hw _ (List.mem_of_getElem? (i := 42) rfl))) (Or.inr (hw _ (List.mem_of_getElem? (i := 44) rfl))) (by decide) (t := .double) (t' := .double) (by decide) (by decide)))
  have F_east_a1 := F_east_a1.same W
  have F_north_a1 := F_north_a1.other W (Or.inr (slot_ne (Or.inr (hw _ (List.mem_of_getElem? (i := 46) rfl))) (Or.inr (hw _ (List.mem_of_getElem? (i := 44) rfl))) (by decide) (t := .double) (t' := .double) (by decide) (by decide)))
  have F_intervals_a1 := F_intervals_a1.other W (Or.inr (slot_ne (Or.inr (hw _ (List.mem_of_getElem? (i := 57) rfl))) (Or.inr (hw _ (List.mem_of_getElem? (i := 44) rfl))) (by decide) (t := (.array (.array .double))) (t' := .double) (by decide) (by decide)))
  have N := Fr.snoc X N g_a1
  have K := K.wr W (Or.inl (List.mem_of_getElem? (i := 0) rfl))
  have Zs := Nat.le_trans Zs (Keep.of_wr W).1
  refine own_aloadN X hx hby (.ref a1) d3_69 rfl rfl 70 rfl ?_
  refine own_dload X hx hby (own_h kd5) d3_70 rfl 72 rfl ?_
  refine own_putF X hx hby hZ hown (host := "") (Or.inl (hw _ (List.mem_of_getElem? (i := 45) rfl))) Via.refl eT F_north_a1 E_a1 (Or.inr ⟨(hw _ (List.mem_of_getElem? (i := 46) rfl)), rfl, hnm⟩) (hw _ (List.mem_of_getElem? (i := 9) rfl)) (ty := .double) (by decide) rfl rfl d3_72 75 rfl ?_
  intro T72 h72 X eT W
  have hk := Nat.le_trans hk (Keep.of_wr W).1
  have E_a1 := E_a1.wr W
  have F_west_a1 := F_west_a1.other W (Or.inr (slot_ne (Or.inr (hw _ (List.mem_of_getElem? (i := 40) rfl))) (Or.inr (hw _ (List.mem_of_getElem? (i := 46) rfl))) (by decide) (t := .double) (t' := .double) (by decide) (by decide)))
  have F_south_a1 := F_south_a1.other W (Or.inr (slot_ne (Or.inr (hw _ (List.mem_of_getElem? (i := 42) rfl))) (Or.inr (hw _ (List.mem_of_getElem? (i := 46) rfl))) (by decide) (t := .double) (t' := .double) (by decide) (by decide)))
  have F_east_a1 := F_east_a1.other W (Or.inr (slot_ne (Or.inr (hw _ (List.mem_of_getElem? (i := 44) rfl))) (Or.inr (hw _ (List.mem_of_getElem? (i := 46) rfl))) (by decide) (t := .double) (t' := .double) (by decide) (by decide)))
  have F_north_a1 := F_north_a1.same W
  have F_intervals_a1 := F_intervals_a1.other W (Or.inr (slot_ne (Or.inr (hw _ (List.mem_of_getElem? (i := 57) rfl))) (Or.inr (hw _ (List.mem_of_getElem? (i := 46) rfl))) (by decide) (t := (.array (.array .double))) (t' := .double) (by decide) (by decide)))
  have N := Fr.snoc X N g_a1
  have K := K.wr W (Or.inl (List.mem_of_getElem? (i := 0) rfl))
  have Zs := Nat.le_trans Zs (Keep.of_wr W).1
  refine own_aloadN X hx hby (.ref a1) d3_75 rfl rfl 76 rfl ?_
  refine own_dloadN X hx hby (own_h kd2) d3_76 rfl 77 rfl ?_
  refine own_dload X hx hby (own_h kd4) d3_77 rfl 79 rfl ?_
  refine own_callS X hx hby hZ (st := [(.ref a1)]) [(.double (own_h kd2)), (.double (own_h kd4))] rfl hown (hw _ (List.mem_of_getElem? (i := 47) rfl)) (hw _ (List.mem_of_getElem? (i := 48) rfl)) (hw _ (List.mem_of_getElem? (i := 10) rfl)) (hw _ (List.mem_of_getElem? (i := 49) rfl)) (by decide) d3_79 (rm7_A l Z a0 hw kd2 kd4 h72 n0 Zs b_kd2 b_kd4 iA) eT pd_2 rfl (by rw [hml]; rfl) (by decide) 1 rfl (by decide) (by decide) (by decide) 82 rfl ?_
  intro T79 L9 v9 X hQ
  obtain ⟨h79, eT⟩ : ∃ z, T79.heap = z := ⟨_, rfl⟩
  rw [eT] at hQ
  have lt_a1 := E_a1.lt
  obtain ⟨b79b7, b79b13, b79b29, rfl, N9, Kc, hs_b79b7, hs_b79b13, hs_b79b29, A_b79b7, E_b79b7, A_b79b13, E_b79b13, A_b79b29, E_b79b29⟩ := hQ
  have g_b79b7 : n0 ≤ b79b7 := Nat.le_trans Zs hs_b79b7
  have sz_b79b7 : h0.size ≤ b79b7 := Nat.le_trans K.1 hs_b79b7
  have ne_a1_b79b7 : a1 ≠ b79b7 := Nat.ne_of_lt (Nat.lt_of_lt_of_le lt_a1 hs_b79b7)
  have g_b79b13 : n0 ≤ b79b13 := Nat.le_trans Zs hs_b79b13
  have sz_b79b13 : h0.size ≤ b79b13 := Nat.le_trans K.1 hs_b79b13
  have ne_a1_b79b13 : a1 ≠ b79b13 := Nat.ne_of_lt (Nat.lt_of_lt_of_le lt_a1 hs_b79b13)
  have g_b79b29 : n0 ≤ b79b29 := Nat.le_trans Zs hs_b79b29
  have sz_b79b29 : h0.size ≤ b79b29 := Nat.le_trans K.1 hs_b79b29
  have ne_a1_b79b29 : a1 ≠ b79b29 := Nat.ne_of_lt (Nat.lt_of_lt_of_le lt_a1 hs_b79b29)
  have hk := Nat.le_trans hk Kc.1
  have E_a1 := E_a1.keep Kc
  have F_west_a1 := F_west_a1.keep Kc nin0
  have F_south_a1 := F_south_a1.keep Kc nin0
  have F_east_a1 := F_east_a1.keep Kc nin0
  have F_north_a1 := F_north_a1.keep Kc nin0
  have F_intervals_a1 := F_intervals_a1.keep Kc nin0
  have K := K.trans Kc all0
  have Zs := Nat.le_trans Zs Kc.1
  have N := Fr.app N N9
  show Go p e below _ T79 (mkF m 82 #[.val (.ref a1), .val (.double (own_h kd2)), .second, .val (.double (own_h kd3)), .second, .val (.double (own_h kd4)), .second, .val (.double (own_h kd5)), .second] [(.ref b79b7), (.ref a1)])
  refine own_putF X hx hby hZ hown (host := "") (Or.inl (hw _ (List.mem_of_getElem? (i := 56) rfl))) Via.refl eT F_intervals_a1 E_a1 (Or.inr ⟨(hw _ (List.mem_of_getElem? (i := 57) rfl)), rfl, hnm⟩) (hw _ (List.mem_of_getElem? (i := 9) rfl)) (ty := (.array (.array .double))) (by decide) rfl rfl d3_82 85 rfl ?_
  intro T82 h82 X eT W
  have hk := Nat.le_trans hk (Keep.of_wr W).1
  have E_a1 := E_a1.wr W
  have F_west_a1 := F_west_a1.other W (Or.inr (slot_ne (Or.inr (hw _ (List.mem_of_getElem? (i := 40) rfl))) (Or.inr (hw _ (List.mem_of_getElem? (i := 57) rfl))) (by decide) (t := .double) (t' := (.array (.array .double))) (by decide) (by decide)))
  have F_south_a1 := F_south_a1.other W (Or.inr (slot_ne (Or.inr (hw _ (List.mem_of_getElem? (i := 42) rfl))) (Or.inr (hw _ (List.mem_of_getElem? (i := 57) rfl))) (by decide) (t := .double) (t' := (.array (.array .double))) (by decide) (by decide)))
  have F_east_a1 := F_east_a1.other W (Or.inr (slot_ne (Or.inr (hw _ (List.mem_of_getElem? (i := 44) rfl))) (Or.inr (hw _ (List.mem_of_getElem? (i := 57) rfl))) (by decide) (t := .double) (t' := (.array (.array .double))) (by decide) (by decide)))
  have F_north_a1 := F_north_a1.other W (Or.inr (slot_ne (Or.inr (hw _ (List.mem_of_getElem? (i := 46) rfl))) (Or.inr (hw _ (List.mem_of_getElem? (i := 57) rfl))) (by decide) (t := .double) (t' := (.array (.array .double))) (by decide) (by decide)))
  have F_intervals_a1 := F_intervals_a1.same W
  have A_b79b7 := A_b79b7.other W (Ne.symm ne_a1_b79b7)
  have E_b79b7 := E_b79b7.wr W
  have A_b79b13 := A_b79b13.other W (Ne.symm ne_a1_b79b13)
  have E_b79b13 := E_b79b13.wr W
  have A_b79b29 := A_b79b29.other W (Ne.symm ne_a1_b79b29)
  have E_b79b29 := E_b79b29.wr W
  have N := Fr.snoc X N g_a1
  have K := K.wr W (Or.inl (List.mem_of_getElem? (i := 0) rfl))
  have Zs := Nat.le_trans Zs (Keep.of_wr W).1
  refine own_retW X hx hby hS (by rw [eT]; exact hk) hret hlk d3_85 (by decide) (by decide) ?_
  rw [eT]
  exact ⟨b79b7, b79b13, b79b29, rfl, N, K, sz_b79b7, sz_b79b13, sz_b79b29, E_a1, F_west_a1, F_south_a1, F_east_a1, F_north_a1, F_intervals_a1, A_b79b7, E_b79b7, A_b79b13, E_b79b13, A_b79b29, E_b79b29⟩
theorem ef_3_B (a1 : Addr) (kd2 : UInt64) (kd3 : UInt64) (kd4 : UInt64) (kd5 : UInt64) (m : MethodId) : entryFrame m #[(.ref a1), (.double kd2), (.double kd3), (.double kd4), (.double kd5)] 9 = mkF m 0 #[.val (.ref a1), .val (.double kd2), .second, .val (.double kd3), .second, .val (.double kd4), .second, .val (.double kd5), .second] [] := by first | (simp [entryFrame, mkF, argsToLocals, Value.category]; done) | rfl
def Q3_B (Z : State) (a1 : Addr) (kd2 : Nat) (kd3 : Nat) (kd4 : Nat) (kd5 : Nat) (w_west_a1 : Nat) (w_south_a1 : Nat) (w_east_a1 : Nat) (w_north_a1 : Nat) (w_intervals_a1 : Value) (h0 : Heap) (n0 : Nat) (v : Option Value) (h : Heap) (L : List Loc) : Prop := ∃ (b79b64 : Addr) (b79b70 : Addr), v = none ∧ Fr n0 L ∧ Keep h0 h [a1] ∧ h0.size ≤ b79b64 ∧ h0.size ≤ b79b70 ∧ Exa Z h a1 "com/example/kvadtree/kvadtree/Box" ∧ Fld Z h a1 "com/example/kvadtree/kvadtree/Box" "west" "D" (.double (own_h kd2)) ∧ Fld Z h a1 "com/example/kvadtree/kvadtree/Box" "south" "D" (.double (own_h kd3)) ∧ Fld Z h a1 "com/example/kvadtree/kvadtree/Box" "east" "D" (.double (own_h kd4)) ∧ Fld Z h a1 "com/example/kvadtree/kvadtree/Box" "north" "D" (.double (own_h kd5)) ∧ Fld Z h a1 "com/example/kvadtree/kvadtree/Box" "intervals" "[[D" (.ref b79b64) ∧ Afn Z h b79b64 (.array .double) 1 (upd (fun _ => .null) 0 (.ref b79b70)) ∧ Exa Z h b79b64 "[[D" ∧ Afn Z h b79b70 .double 2 (upd (upd (fun _ => (.double 0)) 0 (.double (own_h kd2))) 1 (.double (own_h kd4))) ∧ Exa Z h b79b70 "[D"
set_option maxRecDepth 65536 in
set_option maxHeartbeats 40000000 in
theorem rm3_B (l : Launch) (Z : State) (a0 : Array Value) (hw : ∀ d ∈ tables_1, d.before a0 Z = true) (a1 : Addr) (kd2 : Nat) (kd3 : Nat) (kd4 : Nat) (kd5 : Nat) (w_west_a1 : Nat) (w_south_a1 : Nat) (w_east_a1 : Nat) (w_north_a1 : Nat) (w_intervals_a1 : Value) (h0 : Heap) (n0 : Nat) (Zs : n0 ≤ h0.size) (b_kd2 : kd2 < 801) (b_kd3 : kd3 < 801) (b_kd4 : kd4 < 801) (b_kd5 : kd5 < 801) (hw1 : ¬ kd2 < 40) (hw2 : ¬ 760 < kd2) (hs1 : ¬ kd3 < 220) (hs2 : ¬ 580 < kd3) (he1 : ¬ kd4 < 40) (he2 : ¬ 760 < kd4) (hn1 : ¬ kd5 < 220) (hn2 : ¬ 580 < kd5) (hsn : ¬ kd5 < kd3) (iN : ¬ kd4 < kd2) (i1 : kd2 = 40) (i2 : kd4 = 760) (E_a1 : Exa Z h0 a1 "com/example/kvadtree/kvadtree/Box") (b_w_west_a1 : w_west_a1 < 801) (F_west_a1 : Fld Z h0 a1 "com/example/kvadtree/kvadtree/Box" "west" "D" (.double (own_h w_west_a1))) (b_w_south_a1 : w_south_a1 < 801) (F_south_a1 : Fld Z h0 a1 "com/example/kvadtree/kvadtree/Box" "south" "D" (.double (own_h w_south_a1))) (b_w_east_a1 : w_east_a1 < 801) (F_east_a1 : Fld Z h0 a1 "com/example/kvadtree/kvadtree/Box" "east" "D" (.double (own_h w_east_a1))) (b_w_north_a1 : w_north_a1 < 801) (F_north_a1 : Fld Z h0 a1 "com/example/kvadtree/kvadtree/Box" "north" "D" (.double (own_h w_north_a1))) (F_intervals_a1 : Fld Z h0 a1 "com/example/kvadtree/kvadtree/Box" "intervals" "[[D" w_intervals_a1) (g_a1 : n0 ≤ a1) :
    Met1W l Z (⟨"com/example/kvadtree/kvadtree/Box", "<init>", "(DDDD)V"⟩ : MethodName) prog_2_method_1_code 9 none ({ frames := 1, cells := 10, slots := 91, locals := 17 } : Room) #[(.ref a1), (.double (own_h kd2)), (.double (own_h kd3)), (.double (own_h kd4)), (.double (own_h kd5))] h0 (Q3_B Z a1 kd2 kd3 kd4 kd5 w_west_a1 w_south_a1 w_east_a1 w_north_a1 w_intervals_a1 h0 n0) := by
  refine own_met_ofW (plainFor_of_name pn_7) (ef_3_B a1 (own_h kd2) (own_h kd3) (own_h kd4) (own_h kd5)) ?_
  intro p e s m below meth c s₁ vm0 X hx hby hml hZ hown hnm hret hlk eT hS hs0
  have hown : (s.setVm vm0).vm.findClass "com/example/kvadtree/kvadtree/Box" = some m.cls := hown
  have hk : 0 ≤ h0.size := Nat.zero_le _
  have N := Fr.nil n0
  have K := Keep.refl h0 [a1]
  refine own_aloadN X hx hby (.ref a1) d3_0 rfl rfl 1 rfl ?_
  refine own_initO X hx hby hZ hown (hw _ (List.mem_of_getElem? (i := 14) rfl)) (hw _ (List.mem_of_getElem? (i := 15) rfl)) (hw _ (List.mem_of_getElem? (i := 16) rfl)) eT (by rw [hml]; rfl) d3_1 (by decide) 0 rfl (by decide) 4 rfl ?_
  intro T1 X eT
  refine own_ldcS X hx hby hZ hown (hw _ (List.mem_of_getElem? (i := 17) rfl)) (own_wS hw) eT hS hk d3_4 16 (by decide) (by decide) (by decide) (by decide) 6 rfl ?_
  intro T4 h4 lit4 vm4 k4 X eT Ex hS hk hZ hown
  have E_a1 := E_a1.ext Ex
  have F_west_a1 := F_west_a1.ext Ex
  have F_south_a1 := F_south_a1.ext Ex
  have F_east_a1 := F_east_a1.ext Ex
  have F_north_a1 := F_north_a1.ext Ex
  have F_intervals_a1 := F_intervals_a1.ext Ex
  have K := K.ext Ex
  have Zs := Nat.le_trans Zs Ex.1
  refine own_dloadN X hx hby (own_h kd2) d3_6 rfl 7 rfl ?_
  refine own_callS X hx hby hZ (st := []) [(.ref lit4), (.double (own_h kd2))] rfl hown (hw _ (List.mem_of_getElem? (i := 25) rfl)) (hw _ (List.mem_of_getElem? (i := 26) rfl)) (hw _ (List.mem_of_getElem? (i := 27) rfl)) (hw _ (List.mem_of_getElem? (i := 28) rfl)) (by decide) d3_7 (rm5 l Z a0 hw lit4 kd2 h4 n0 Zs b_kd2 hw1 hw2) eT pd_6 rfl (by rw [hml]; rfl) (by decide) 0 rfl (by decide) (by decide) (by decide) 10 rfl ?_
  intro T7 L9 v9 X hQ
  obtain ⟨rfl, N9, eT⟩ := hQ
  have N := Fr.app N N9
  show Go p e below _ T7 (mkF m 10 #[.val (.ref a1), .val (.double (own_h kd2)), .second, .val (.double (own_h kd3)), .second, .val (.double (own_h kd4)), .second, .val (.double (own_h kd5)), .second] [])
  refine own_ldcS X hx hby hZ hown (hw _ (List.mem_of_getElem? (i := 31) rfl)) (own_wS hw) eT hS hk d3_10 20 (by decide) (by decide) (by decide) (by decide) 12 rfl ?_
  intro T10 h10 lit10 vm10 k10 X eT Ex hS hk hZ hown
  have E_a1 := E_a1.ext Ex
  have F_west_a1 := F_west_a1.ext Ex
  have F_south_a1 := F_south_a1.ext Ex
  have F_east_a1 := F_east_a1.ext Ex
  have F_north_a1 := F_north_a1.ext Ex
  have F_intervals_a1 := F_intervals_a1.ext Ex
  have K := K.ext Ex
  have Zs := Nat.le_trans Zs Ex.1
  refine own_dloadN X hx hby (own_h kd3) d3_12 rfl 13 rfl ?_
  refine own_callS X hx hby hZ (st := []) [(.ref lit10), (.double (own_h kd3))] rfl hown (hw _ (List.mem_of_getElem? (i := 32) rfl)) (hw _ (List.mem_of_getElem? (i := 33) rfl)) (hw _ (List.mem_of_getElem? (i := 27) rfl)) (hw _ (List.mem_of_getElem? (i := 34) rfl)) (by decide) d3_13 (rm6 l Z a0 hw lit10 kd3 h10 n0 Zs b_kd3 hs1 hs2) eT pd_6 rfl (by rw [hml]; rfl) (by decide) 0 rfl (by decide) (by decide) (by decide) 16 rfl ?_
  intro T13 L9 v9 X hQ
  obtain ⟨rfl, N9, eT⟩ := hQ
  have N := Fr.app N N9
  show Go p e below _ T13 (mkF m 16 #[.val (.ref a1), .val (.double (own_h kd2)), .second, .val (.double (own_h kd3)), .second, .val (.double (own_h kd4)), .second, .val (.double (own_h kd5)), .second] [])
  refine own_ldcS X hx hby hZ hown (hw _ (List.mem_of_getElem? (i := 37) rfl)) (own_wS hw) eT hS hk d3_16 16 (by decide) (by decide) (by decide) (by decide) 18 rfl ?_
  intro T16 h16 lit16 vm16 k16 X eT Ex hS hk hZ hown
  have E_a1 := E_a1.ext Ex
  have F_west_a1 := F_west_a1.ext Ex
  have F_south_a1 := F_south_a1.ext Ex
  have F_east_a1 := F_east_a1.ext Ex
  have F_north_a1 := F_north_a1.ext Ex
  have F_intervals_a1 := F_intervals_a1.ext Ex
  have K := K.ext Ex
  have Zs := Nat.le_trans Zs Ex.1
  refine own_dload X hx hby (own_h kd4) d3_18 rfl 20 rfl ?_
  refine own_callS X hx hby hZ (st := []) [(.ref lit16), (.double (own_h kd4))] rfl hown (hw _ (List.mem_of_getElem? (i := 25) rfl)) (hw _ (List.mem_of_getElem? (i := 26) rfl)) (hw _ (List.mem_of_getElem? (i := 27) rfl)) (hw _ (List.mem_of_getElem? (i := 28) rfl)) (by decide) d3_20 (rm5 l Z a0 hw lit16 kd4 h16 n0 Zs b_kd4 he1 he2) eT pd_6 rfl (by rw [hml]; rfl) (by decide) 0 rfl (by decide) (by decide) (by decide) 23 rfl ?_
  intro T20 L9 v9 X hQ
  obtain ⟨rfl, N9, eT⟩ := hQ
  have N := Fr.app N N9
  show Go p e below _ T20 (mkF m 23 #[.val (.ref a1), .val (.double (own_h kd2)), .second, .val (.double (own_h kd3)), .second, .val (.double (own_h kd4)), .second, .val (.double (own_h kd5)), .second] [])
  refine own_ldcS X hx hby hZ hown (hw _ (List.mem_of_getElem? (i := 38) rfl)) (own_wS hw) eT hS hk d3_23 20 (by decide) (by decide) (by decide) (by decide) 25 rfl ?_
  intro T23 h23 lit23 vm23 k23 X eT Ex hS hk hZ hown
  have E_a1 := E_a1.ext Ex
  have F_west_a1 := F_west_a1.ext Ex
  have F_south_a1 := F_south_a1.ext Ex
  have F_east_a1 := F_east_a1.ext Ex
  have F_north_a1 := F_north_a1.ext Ex
  have F_intervals_a1 := F_intervals_a1.ext Ex
  have K := K.ext Ex
  have Zs := Nat.le_trans Zs Ex.1
  refine own_dload X hx hby (own_h kd5) d3_25 rfl 27 rfl ?_
  refine own_callS X hx hby hZ (st := []) [(.ref lit23), (.double (own_h kd5))] rfl hown (hw _ (List.mem_of_getElem? (i := 32) rfl)) (hw _ (List.mem_of_getElem? (i := 33) rfl)) (hw _ (List.mem_of_getElem? (i := 27) rfl)) (hw _ (List.mem_of_getElem? (i := 34) rfl)) (by decide) d3_27 (rm6 l Z a0 hw lit23 kd5 h23 n0 Zs b_kd5 hn1 hn2) eT pd_6 rfl (by rw [hml]; rfl) (by decide) 0 rfl (by decide) (by decide) (by decide) 30 rfl ?_
  intro T27 L9 v9 X hQ
  obtain ⟨rfl, N9, eT⟩ := hQ
  have N := Fr.app N N9
  show Go p e below _ T27 (mkF m 30 #[.val (.ref a1), .val (.double (own_h kd2)), .second, .val (.double (own_h kd3)), .second, .val (.double (own_h kd4)), .second, .val (.double (own_h kd5)), .second] [])
  refine own_dloadN X hx hby (own_h kd3) d3_30 rfl 31 rfl ?_
  refine own_dload X hx hby (own_h kd5) d3_31 rfl 33 rfl ?_
  have c34 : ¬ kd5 < kd3 := hsn
  refine own_dcmp_le X hx hby b_kd3 b_kd5 d3_33 d3_34 53 37 (by decide) rfl (fun _ => ?_) (fun q => absurd q c34)
  refine own_aloadN X hx hby (.ref a1) d3_53 rfl rfl 54 rfl ?_
  refine own_dloadN X hx hby (own_h kd2) d3_54 rfl 55 rfl ?_
  refine own_putF X hx hby hZ hown (host := "") (Or.inl (hw _ (List.mem_of_getElem? (i := 39) rfl))) Via.refl eT F_west_a1 E_a1 (Or.inr ⟨(hw _ (List.mem_of_getElem? (i := 40) rfl)), rfl, hnm⟩) (hw _ (List.mem_of_getElem? (i := 9) rfl)) (ty := .double) (by decide) rfl rfl d3_55 58 rfl ?_
  intro T55 h55 X eT W
  have hk := Nat.le_trans hk (Keep.of_wr W).1
  have E_a1 := E_a1.wr W
  have F_west_a1 := F_west_a1.same W
  have F_south_a1 := F_south_a1.other W (Or.inr (slot_ne (Or.inr (hw _ (List.mem_of_getElem? (i := 42) rfl))) (Or.inr (hw _ (List.mem_of_getElem? (i := 40) rfl))) (by decide) (t := .double) (t' := .double) (by decide) (by decide)))
  have F_east_a1 := F_east_a1.other W (Or.inr (slot_ne (Or.inr (hw _ (List.mem_of_getElem? (i := 44) rfl))) (Or.inr (hw _ (List.mem_of_getElem? (i := 40) rfl))) (by decide) (t := .double) (t' := .double) (by decide) (by decide)))
  have F_north_a1 := F_north_a1.other W (Or.inr (slot_ne (Or.inr (hw _ (List.mem_of_getElem? (i := 46) rfl))) (Or.inr (hw _ (List.mem_of_getElem? (i := 40) rfl))) (by decide) (t := .double) (t' := .double) (by decide) (by decide)))
  have F_intervals_a1 := F_intervals_a1.other W (Or.inr (slot_ne (Or.inr (hw _ (List.mem_of_getElem? (i := 57) rfl))) (Or.inr (hw _ (List.mem_of_getElem? (i := 40) rfl))) (by decide) (t := (.array (.array .double))) (t' := .double) (by decide) (by decide)))
  have N := Fr.snoc X N g_a1
  have K := K.wr W (Or.inl (List.mem_of_getElem? (i := 0) rfl))
  have Zs := Nat.le_trans Zs (Keep.of_wr W).1
  refine own_aloadN X hx hby (.ref a1) d3_58 rfl rfl 59 rfl ?_
  refine own_dloadN X hx hby (own_h kd3) d3_59 rfl 60 rfl ?_
  refine own_putF X hx hby hZ hown (host := "") (Or.inl (hw _ (List.mem_of_getElem? (i := 41) rfl))) Via.refl eT F_south_a1 E_a1 (Or.inr ⟨(hw _ (List.mem_of_getElem? (i := 42) rfl)), rfl, hnm⟩) (hw _ (List.mem_of_getElem? (i := 9) rfl)) (ty := .double) (by decide) rfl rfl d3_60 63 rfl ?_
  intro T60 h60 X eT W
  have hk := Nat.le_trans hk (Keep.of_wr W).1
  have E_a1 := E_a1.wr W
  have F_west_a1 := F_west_a1.other W (Or.inr (slot_ne (Or.inr (hw _ (List.mem_of_getElem? (i := 40) rfl))) (Or.inr (hw _ (List.mem_of_getElem? (i := 42) rfl))) (by decide) (t := .double) (t' := .double) (by decide) (by decide)))
  have F_south_a1 := F_south_a1.same W
  have F_east_a1 := F_east_a1.other W (Or.inr (slot_ne (Or.inr (hw _ (List.mem_of_getElem? (i := 44) rfl))) (Or.inr (hw _ (List.mem_of_getElem? (i := 42) rfl))) (by decide) (t := .double) (t' := .double) (by decide) (by decide)))
  have F_north_a1 := F_north_a1.other W (Or.inr (slot_ne (Or.inr (hw _ (List.mem_of_getElem? (i := 46) rfl))) (Or.inr (hw _ (List.mem_of_getElem? (i := 42) rfl))) (by decide) (t := .double) (t' := .double) (by decide) (by decide)))
  have F_intervals_a1 := F_intervals_a1.other W (Or.inr (slot_ne (Or.inr (hw _ (List.mem_of_getElem? (i := 57) rfl))) (Or.inr (hw _ (List.mem_of_getElem? (i := 42) rfl))) (by decide) (t := (.array (.array .double))) (t' := .double) (by decide) (by decide)))
  have N := Fr.snoc X N g_a1
  have K := K.wr W (Or.inl (List.mem_of_getElem? (i := 0) rfl))
  have Zs := Nat.le_trans Zs (Keep.of_wr W).1
  refine own_aloadN X hx hby (.ref a1) d3_63 rfl rfl 64 rfl ?_
  refine own_dload X hx hby (own_h kd4) d3_64 rfl 66 rfl ?_
  refine own_putF X hx hby hZ hown (host := "") (Or.inl (hw _ (List.mem_of_getElem? (i := 43) rfl))) Via.refl eT F_east_a1 E_a1 (Or.inr ⟨(hw _ (List.mem_of_getElem? (i := 44) rfl)), rfl, hnm⟩) (hw _ (List.mem_of_getElem? (i := 9) rfl)) (ty := .double) (by decide) rfl rfl d3_66 69 rfl ?_
  intro T66 h66 X eT W
  have hk := Nat.le_trans hk (Keep.of_wr W).1
  have E_a1 := E_a1.wr W
  have F_west_a1 := F_west_a1.other W (Or.inr (slot_ne (Or.inr (hw _ (List.mem_of_getElem? (i := 40) rfl))) (Or.inr (hw _ (List.mem_of_getElem? (i := 44) rfl))) (by decide) (t := .double) (t' := .double) (by decide) (by decide)))
  have F_south_a1 := F_south_a1.other W (Or.inr (slot_ne (Or.inr (hw _ (List.mem_of_getElem? (i := 42) rfl))) (Or.inr (hw _ (List.mem_of_getElem? (i := 44) rfl))) (by decide) (t := .double) (t' := .double) (by decide) (by decide)))
  have F_east_a1 := F_east_a1.same W
  have F_north_a1 := F_north_a1.other W (Or.inr (slot_ne (Or.inr (hw _ (List.mem_of_getElem? (i := 46) rfl))) (Or.inr (hw _ (List.mem_of_getElem? (i := 44) rfl))) (by decide) (t := .double) (t' := .double) (by decide) (by decide)))
  have F_intervals_a1 := F_intervals_a1.other W (Or.inr (slot_ne (Or.inr (hw _ (List.mem_of_getElem? (i := 57) rfl))) (Or.inr (hw _ (List.mem_of_getElem? (i := 44) rfl))) (by decide) (t := (.array (.array .double))) (t' := .double) (by decide) (by decide)))
  have N := Fr.snoc X N g_a1
  have K := K.wr W (Or.inl (List.mem_of_getElem? (i := 0) rfl))
  have Zs := Nat.le_trans Zs (Keep.of_wr W).1
  refine own_aloadN X hx hby (.ref a1) d3_69 rfl rfl 70 rfl ?_
  refine own_dload X hx hby (own_h kd5) d3_70 rfl 72 rfl ?_
  refine own_putF X hx hby hZ hown (host := "") (Or.inl (hw _ (List.mem_of_getElem? (i := 45) rfl))) Via.refl eT F_north_a1 E_a1 (Or.inr ⟨(hw _ (List.mem_of_getElem? (i := 46) rfl)), rfl, hnm⟩) (hw _ (List.mem_of_getElem? (i := 9) rfl)) (ty := .double) (by decide) rfl rfl d3_72 75 rfl ?_
  intro T72 h72 X eT W
  have hk := Nat.le_trans hk (Keep.of_wr W).1
  have E_a1 := E_a1.wr W
  have F_west_a1 := F_west_a1.other W (Or.inr (slot_ne (Or.inr (hw _ (List.mem_of_getElem? (i := 40) rfl))) (Or.inr (hw _ (List.mem_of_getElem? (i := 46) rfl))) (by decide) (t := .double) (t' := .double) (by decide) (by decide)))
  have F_south_a1 := F_south_a1.other W (Or.inr (slot_ne (Or.inr (hw _ (List.mem_of_getElem? (i := 42) rfl))) (Or.inr (hw _ (List.mem_of_getElem? (i := 46) rfl))) (by decide) (t := .double) (t' := .double) (by decide) (by decide)))
  have F_east_a1 := F_east_a1.other W (Or.inr (slot_ne (Or.inr (hw _ (List.mem_of_getElem? (i := 44) rfl))) (Or.inr (hw _ (List.mem_of_getElem? (i := 46) rfl))) (by decide) (t := .double) (t' := .double) (by decide) (by decide)))
  have F_north_a1 := F_north_a1.same W
  have F_intervals_a1 := F_intervals_a1.other W (Or.inr (slot_ne (Or.inr (hw _ (List.mem_of_getElem? (i := 57) rfl))) (Or.inr (hw _ (List.mem_of_getElem? (i := 46) rfl))) (by decide) (t := (.array (.array .double))) (t' := .double) (by decide) (by decide)))
  have N := Fr.snoc X N g_a1
  have K := K.wr W (Or.inl (List.mem_of_getElem? (i := 0) rfl))
  have Zs := Nat.le_trans Zs (Keep.of_wr W).1
  refine own_aloadN X hx hby (.ref a1) d3_75 rfl rfl 76 rfl ?_
  refine own_dloadN X hx hby (own_h kd2) d3_76 rfl 77 rfl ?_
  refine own_dload X hx hby (own_h kd4) d3_77 rfl 79 rfl ?_
  refine own_callS X hx hby hZ (st := [(.ref a1)]) [(.double (own_h kd2)), (.double (own_h kd4))] rfl hown (hw _ (List.mem_of_getElem? (i := 47) rfl)) (hw _ (List.mem_of_getElem? (i := 48) rfl)) (hw _ (List.mem_of_getElem? (i := 10) rfl)) (hw _ (List.mem_of_getElem? (i := 49) rfl)) (by decide) d3_79 (rm7_B l Z a0 hw kd2 kd4 h72 n0 Zs b_kd2 b_kd4 iN i1 i2) eT pd_2 rfl (by rw [hml]; rfl) (by decide) 1 rfl (by decide) (by decide) (by decide) 82 rfl ?_
  intro T79 L9 v9 X hQ
  obtain ⟨h79, eT⟩ : ∃ z, T79.heap = z := ⟨_, rfl⟩
  rw [eT] at hQ
  have lt_a1 := E_a1.lt
  obtain ⟨b79b64, b79b70, rfl, N9, Kc, hs_b79b64, hs_b79b70, A_b79b64, E_b79b64, A_b79b70, E_b79b70⟩ := hQ
  have g_b79b64 : n0 ≤ b79b64 := Nat.le_trans Zs hs_b79b64
  have sz_b79b64 : h0.size ≤ b79b64 := Nat.le_trans K.1 hs_b79b64
  have ne_a1_b79b64 : a1 ≠ b79b64 := Nat.ne_of_lt (Nat.lt_of_lt_of_le lt_a1 hs_b79b64)
  have g_b79b70 : n0 ≤ b79b70 := Nat.le_trans Zs hs_b79b70
  have sz_b79b70 : h0.size ≤ b79b70 := Nat.le_trans K.1 hs_b79b70
  have ne_a1_b79b70 : a1 ≠ b79b70 := Nat.ne_of_lt (Nat.lt_of_lt_of_le lt_a1 hs_b79b70)
  have hk := Nat.le_trans hk Kc.1
  have E_a1 := E_a1.keep Kc
  have F_west_a1 := F_west_a1.keep Kc nin0
  have F_south_a1 := F_south_a1.keep Kc nin0
  have F_east_a1 := F_east_a1.keep Kc nin0
  have F_north_a1 := F_north_a1.keep Kc nin0
  have F_intervals_a1 := F_intervals_a1.keep Kc nin0
  have K := K.trans Kc all0
  have Zs := Nat.le_trans Zs Kc.1
  have N := Fr.app N N9
  show Go p e below _ T79 (mkF m 82 #[.val (.ref a1), .val (.double (own_h kd2)), .second, .val (.double (own_h kd3)), .second, .val (.double (own_h kd4)), .second, .val (.double (own_h kd5)), .second] [(.ref b79b64), (.ref a1)])
  refine own_putF X hx hby hZ hown (host := "") (Or.inl (hw _ (List.mem_of_getElem? (i := 56) rfl))) Via.refl eT F_intervals_a1 E_a1 (Or.inr ⟨(hw _ (List.mem_of_getElem? (i := 57) rfl)), rfl, hnm⟩) (hw _ (List.mem_of_getElem? (i := 9) rfl)) (ty := (.array (.array .double))) (by decide) rfl rfl d3_82 85 rfl ?_
  intro T82 h82 X eT W
  have hk := Nat.le_trans hk (Keep.of_wr W).1
  have E_a1 := E_a1.wr W
  have F_west_a1 := F_west_a1.other W (Or.inr (slot_ne (Or.inr (hw _ (List.mem_of_getElem? (i := 40) rfl))) (Or.inr (hw _ (List.mem_of_getElem? (i := 57) rfl))) (by decide) (t := .double) (t' := (.array (.array .double))) (by decide) (by decide)))
  have F_south_a1 := F_south_a1.other W (Or.inr (slot_ne (Or.inr (hw _ (List.mem_of_getElem? (i := 42) rfl))) (Or.inr (hw _ (List.mem_of_getElem? (i := 57) rfl))) (by decide) (t := .double) (t' := (.array (.array .double))) (by decide) (by decide)))
  have F_east_a1 := F_east_a1.other W (Or.inr (slot_ne (Or.inr (hw _ (List.mem_of_getElem? (i := 44) rfl))) (Or.inr (hw _ (List.mem_of_getElem? (i := 57) rfl))) (by decide) (t := .double) (t' := (.array (.array .double))) (by decide) (by decide)))
  have F_north_a1 := F_north_a1.other W (Or.inr (slot_ne (Or.inr (hw _ (List.mem_of_getElem? (i := 46) rfl))) (Or.inr (hw _ (List.mem_of_getElem? (i := 57) rfl))) (by decide) (t := .double) (t' := (.array (.array .double))) (by decide) (by decide)))
  have F_intervals_a1 := F_intervals_a1.same W
  have A_b79b64 := A_b79b64.other W (Ne.symm ne_a1_b79b64)
  have E_b79b64 := E_b79b64.wr W
  have A_b79b70 := A_b79b70.other W (Ne.symm ne_a1_b79b70)
  have E_b79b70 := E_b79b70.wr W
  have N := Fr.snoc X N g_a1
  have K := K.wr W (Or.inl (List.mem_of_getElem? (i := 0) rfl))
  have Zs := Nat.le_trans Zs (Keep.of_wr W).1
  refine own_retW X hx hby hS (by rw [eT]; exact hk) hret hlk d3_85 (by decide) (by decide) ?_
  rw [eT]
  exact ⟨b79b64, b79b70, rfl, N, K, sz_b79b64, sz_b79b70, E_a1, F_west_a1, F_south_a1, F_east_a1, F_north_a1, F_intervals_a1, A_b79b64, E_b79b64, A_b79b70, E_b79b70⟩
theorem ef_3_C (a1 : Addr) (kd2 : UInt64) (kd3 : UInt64) (kd4 : UInt64) (kd5 : UInt64) (m : MethodId) : entryFrame m #[(.ref a1), (.double kd2), (.double kd3), (.double kd4), (.double kd5)] 9 = mkF m 0 #[.val (.ref a1), .val (.double kd2), .second, .val (.double kd3), .second, .val (.double kd4), .second, .val (.double kd5), .second] [] := by first | (simp [entryFrame, mkF, argsToLocals, Value.category]; done) | rfl
def Q3_C (Z : State) (a1 : Addr) (kd2 : Nat) (kd3 : Nat) (kd4 : Nat) (kd5 : Nat) (w_west_a1 : Nat) (w_south_a1 : Nat) (w_east_a1 : Nat) (w_north_a1 : Nat) (w_intervals_a1 : Value) (h0 : Heap) (n0 : Nat) (v : Option Value) (h : Heap) (L : List Loc) : Prop := ∃ (b79b95 : Addr) (b79b101 : Addr) (b79b115 : Addr), v = none ∧ Fr n0 L ∧ Keep h0 h [a1] ∧ h0.size ≤ b79b95 ∧ h0.size ≤ b79b101 ∧ h0.size ≤ b79b115 ∧ Exa Z h a1 "com/example/kvadtree/kvadtree/Box" ∧ Fld Z h a1 "com/example/kvadtree/kvadtree/Box" "west" "D" (.double (own_h kd2)) ∧ Fld Z h a1 "com/example/kvadtree/kvadtree/Box" "south" "D" (.double (own_h kd3)) ∧ Fld Z h a1 "com/example/kvadtree/kvadtree/Box" "east" "D" (.double (own_h kd4)) ∧ Fld Z h a1 "com/example/kvadtree/kvadtree/Box" "north" "D" (.double (own_h kd5)) ∧ Fld Z h a1 "com/example/kvadtree/kvadtree/Box" "intervals" "[[D" (.ref b79b95) ∧ Afn Z h b79b95 (.array .double) 2 (upd (upd (fun _ => .null) 0 (.ref b79b101)) 1 (.ref b79b115)) ∧ Exa Z h b79b95 "[[D" ∧ Afn Z h b79b101 .double 2 (upd (upd (fun _ => (.double 0)) 0 (.double (own_h kd2))) 1 (.double (own_h kd4))) ∧ Exa Z h b79b101 "[D" ∧ Afn Z h b79b115 .double 2 (upd (upd (fun _ => (.double 0)) 0 (.double (own_h 40))) 1 (.double (own_h 40))) ∧ Exa Z h b79b115 "[D"
set_option maxRecDepth 65536 in
set_option maxHeartbeats 40000000 in
theorem rm3_C (l : Launch) (Z : State) (a0 : Array Value) (hw : ∀ d ∈ tables_1, d.before a0 Z = true) (a1 : Addr) (kd2 : Nat) (kd3 : Nat) (kd4 : Nat) (kd5 : Nat) (w_west_a1 : Nat) (w_south_a1 : Nat) (w_east_a1 : Nat) (w_north_a1 : Nat) (w_intervals_a1 : Value) (h0 : Heap) (n0 : Nat) (Zs : n0 ≤ h0.size) (b_kd2 : kd2 < 801) (b_kd3 : kd3 < 801) (b_kd4 : kd4 < 801) (b_kd5 : kd5 < 801) (hw1 : ¬ kd2 < 40) (hw2 : ¬ 760 < kd2) (hs1 : ¬ kd3 < 220) (hs2 : ¬ 580 < kd3) (he1 : ¬ kd4 < 40) (he2 : ¬ 760 < kd4) (hn1 : ¬ kd5 < 220) (hn2 : ¬ 580 < kd5) (hsn : ¬ kd5 < kd3) (iN : ¬ kd4 < kd2) (i1 : ¬ kd2 = 40) (i2 : kd4 = 760) (E_a1 : Exa Z h0 a1 "com/example/kvadtree/kvadtree/Box") (b_w_west_a1 : w_west_a1 < 801) (F_west_a1 : Fld Z h0 a1 "com/example/kvadtree/kvadtree/Box" "west" "D" (.double (own_h w_west_a1))) (b_w_south_a1 : w_south_a1 < 801) (F_south_a1 : Fld Z h0 a1 "com/example/kvadtree/kvadtree/Box" "south" "D" (.double (own_h w_south_a1))) (b_w_east_a1 : w_east_a1 < 801) (F_east_a1 : Fld Z h0 a1 "com/example/kvadtree/kvadtree/Box" "east" "D" (.double (own_h w_east_a1))) (b_w_north_a1 : w_north_a1 < 801) (F_north_a1 : Fld Z h0 a1 "com/example/kvadtree/kvadtree/Box" "north" "D" (.double (own_h w_north_a1))) (F_intervals_a1 : Fld Z h0 a1 "com/example/kvadtree/kvadtree/Box" "intervals" "[[D" w_intervals_a1) (g_a1 : n0 ≤ a1) :
    Met1W l Z (⟨"com/example/kvadtree/kvadtree/Box", "<init>", "(DDDD)V"⟩ : MethodName) prog_2_method_1_code 9 none ({ frames := 1, cells := 11, slots := 94, locals := 17 } : Room) #[(.ref a1), (.double (own_h kd2)), (.double (own_h kd3)), (.double (own_h kd4)), (.double (own_h kd5))] h0 (Q3_C Z a1 kd2 kd3 kd4 kd5 w_west_a1 w_south_a1 w_east_a1 w_north_a1 w_intervals_a1 h0 n0) := by
  refine own_met_ofW (plainFor_of_name pn_7) (ef_3_C a1 (own_h kd2) (own_h kd3) (own_h kd4) (own_h kd5)) ?_
  intro p e s m below meth c s₁ vm0 X hx hby hml hZ hown hnm hret hlk eT hS hs0
  have hown : (s.setVm vm0).vm.findClass "com/example/kvadtree/kvadtree/Box" = some m.cls := hown
  have hk : 0 ≤ h0.size := Nat.zero_le _
  have N := Fr.nil n0
  have K := Keep.refl h0 [a1]
  refine own_aloadN X hx hby (.ref a1) d3_0 rfl rfl 1 rfl ?_
  refine own_initO X hx hby hZ hown (hw _ (List.mem_of_getElem? (i := 14) rfl)) (hw _ (List.mem_of_getElem? (i := 15) rfl)) (hw _ (List.mem_of_getElem? (i := 16) rfl)) eT (by rw [hml]; rfl) d3_1 (by decide) 0 rfl (by decide) 4 rfl ?_
  intro T1 X eT
  refine own_ldcS X hx hby hZ hown (hw _ (List.mem_of_getElem? (i := 17) rfl)) (own_wS hw) eT hS hk d3_4 16 (by decide) (by decide) (by decide) (by decide) 6 rfl ?_
  intro T4 h4 lit4 vm4 k4 X eT Ex hS hk hZ hown
  have E_a1 := E_a1.ext Ex
  have F_west_a1 := F_west_a1.ext Ex
  have F_south_a1 := F_south_a1.ext Ex
  have F_east_a1 := F_east_a1.ext Ex
  have F_north_a1 := F_north_a1.ext Ex
  have F_intervals_a1 := F_intervals_a1.ext Ex
  have K := K.ext Ex
  have Zs := Nat.le_trans Zs Ex.1
  refine own_dloadN X hx hby (own_h kd2) d3_6 rfl 7 rfl ?_
  refine own_callS X hx hby hZ (st := []) [(.ref lit4), (.double (own_h kd2))] rfl hown (hw _ (List.mem_of_getElem? (i := 25) rfl)) (hw _ (List.mem_of_getElem? (i := 26) rfl)) (hw _ (List.mem_of_getElem? (i := 27) rfl)) (hw _ (List.mem_of_getElem? (i := 28) rfl)) (by decide) d3_7 (rm5 l Z a0 hw lit4 kd2 h4 n0 Zs b_kd2 hw1 hw2) eT pd_6 rfl (by rw [hml]; rfl) (by decide) 0 rfl (by decide) (by decide) (by decide) 10 rfl ?_
  intro T7 L9 v9 X hQ
  obtain ⟨rfl, N9, eT⟩ := hQ
  have N := Fr.app N N9
  show Go p e below _ T7 (mkF m 10 #[.val (.ref a1), .val (.double (own_h kd2)), .second, .val (.double (own_h kd3)), .second, .val (.double (own_h kd4)), .second, .val (.double (own_h kd5)), .second] [])
  refine own_ldcS X hx hby hZ hown (hw _ (List.mem_of_getElem? (i := 31) rfl)) (own_wS hw) eT hS hk d3_10 20 (by decide) (by decide) (by decide) (by decide) 12 rfl ?_
  intro T10 h10 lit10 vm10 k10 X eT Ex hS hk hZ hown
  have E_a1 := E_a1.ext Ex
  have F_west_a1 := F_west_a1.ext Ex
  have F_south_a1 := F_south_a1.ext Ex
  have F_east_a1 := F_east_a1.ext Ex
  have F_north_a1 := F_north_a1.ext Ex
  have F_intervals_a1 := F_intervals_a1.ext Ex
  have K := K.ext Ex
  have Zs := Nat.le_trans Zs Ex.1
  refine own_dloadN X hx hby (own_h kd3) d3_12 rfl 13 rfl ?_
  refine own_callS X hx hby hZ (st := []) [(.ref lit10), (.double (own_h kd3))] rfl hown (hw _ (List.mem_of_getElem? (i := 32) rfl)) (hw _ (List.mem_of_getElem? (i := 33) rfl)) (hw _ (List.mem_of_getElem? (i := 27) rfl)) (hw _ (List.mem_of_getElem? (i := 34) rfl)) (by decide) d3_13 (rm6 l Z a0 hw lit10 kd3 h10 n0 Zs b_kd3 hs1 hs2) eT pd_6 rfl (by rw [hml]; rfl) (by decide) 0 rfl (by decide) (by decide) (by decide) 16 rfl ?_
  intro T13 L9 v9 X hQ
  obtain ⟨rfl, N9, eT⟩ := hQ
  have N := Fr.app N N9
  show Go p e below _ T13 (mkF m 16 #[.val (.ref a1), .val (.double (own_h kd2)), .second, .val (.double (own_h kd3)), .second, .val (.double (own_h kd4)), .second, .val (.double (own_h kd5)), .second] [])
  refine own_ldcS X hx hby hZ hown (hw _ (List.mem_of_getElem? (i := 37) rfl)) (own_wS hw) eT hS hk d3_16 16 (by decide) (by decide) (by decide) (by decide) 18 rfl ?_
  intro T16 h16 lit16 vm16 k16 X eT Ex hS hk hZ hown
  have E_a1 := E_a1.ext Ex
  have F_west_a1 := F_west_a1.ext Ex
  have F_south_a1 := F_south_a1.ext Ex
  have F_east_a1 := F_east_a1.ext Ex
  have F_north_a1 := F_north_a1.ext Ex
  have F_intervals_a1 := F_intervals_a1.ext Ex
  have K := K.ext Ex
  have Zs := Nat.le_trans Zs Ex.1
  refine own_dload X hx hby (own_h kd4) d3_18 rfl 20 rfl ?_
  refine own_callS X hx hby hZ (st := []) [(.ref lit16), (.double (own_h kd4))] rfl hown (hw _ (List.mem_of_getElem? (i := 25) rfl)) (hw _ (List.mem_of_getElem? (i := 26) rfl)) (hw _ (List.mem_of_getElem? (i := 27) rfl)) (hw _ (List.mem_of_getElem? (i := 28) rfl)) (by decide) d3_20 (rm5 l Z a0 hw lit16 kd4 h16 n0 Zs b_kd4 he1 he2) eT pd_6 rfl (by rw [hml]; rfl) (by decide) 0 rfl (by decide) (by decide) (by decide) 23 rfl ?_
  intro T20 L9 v9 X hQ
  obtain ⟨rfl, N9, eT⟩ := hQ
  have N := Fr.app N N9
  show Go p e below _ T20 (mkF m 23 #[.val (.ref a1), .val (.double (own_h kd2)), .second, .val (.double (own_h kd3)), .second, .val (.double (own_h kd4)), .second, .val (.double (own_h kd5)), .second] [])
  refine own_ldcS X hx hby hZ hown (hw _ (List.mem_of_getElem? (i := 38) rfl)) (own_wS hw) eT hS hk d3_23 20 (by decide) (by decide) (by decide) (by decide) 25 rfl ?_
  intro T23 h23 lit23 vm23 k23 X eT Ex hS hk hZ hown
  have E_a1 := E_a1.ext Ex
  have F_west_a1 := F_west_a1.ext Ex
  have F_south_a1 := F_south_a1.ext Ex
  have F_east_a1 := F_east_a1.ext Ex
  have F_north_a1 := F_north_a1.ext Ex
  have F_intervals_a1 := F_intervals_a1.ext Ex
  have K := K.ext Ex
  have Zs := Nat.le_trans Zs Ex.1
  refine own_dload X hx hby (own_h kd5) d3_25 rfl 27 rfl ?_
  refine own_callS X hx hby hZ (st := []) [(.ref lit23), (.double (own_h kd5))] rfl hown (hw _ (List.mem_of_getElem? (i := 32) rfl)) (hw _ (List.mem_of_getElem? (i := 33) rfl)) (hw _ (List.mem_of_getElem? (i := 27) rfl)) (hw _ (List.mem_of_getElem? (i := 34) rfl)) (by decide) d3_27 (rm6 l Z a0 hw lit23 kd5 h23 n0 Zs b_kd5 hn1 hn2) eT pd_6 rfl (by rw [hml]; rfl) (by decide) 0 rfl (by decide) (by decide) (by decide) 30 rfl ?_
  intro T27 L9 v9 X hQ
  obtain ⟨rfl, N9, eT⟩ := hQ
  have N := Fr.app N N9
  show Go p e below _ T27 (mkF m 30 #[.val (.ref a1), .val (.double (own_h kd2)), .second, .val (.double (own_h kd3)), .second, .val (.double (own_h kd4)), .second, .val (.double (own_h kd5)), .second] [])
  refine own_dloadN X hx hby (own_h kd3) d3_30 rfl 31 rfl ?_
  refine own_dload X hx hby (own_h kd5) d3_31 rfl 33 rfl ?_
  have c34 : ¬ kd5 < kd3 := hsn
  refine own_dcmp_le X hx hby b_kd3 b_kd5 d3_33 d3_34 53 37 (by decide) rfl (fun _ => ?_) (fun q => absurd q c34)
  refine own_aloadN X hx hby (.ref a1) d3_53 rfl rfl 54 rfl ?_
  refine own_dloadN X hx hby (own_h kd2) d3_54 rfl 55 rfl ?_
  refine own_putF X hx hby hZ hown (host := "") (Or.inl (hw _ (List.mem_of_getElem? (i := 39) rfl))) Via.refl eT F_west_a1 E_a1 (Or.inr ⟨(hw _ (List.mem_of_getElem? (i := 40) rfl)), rfl, hnm⟩) (hw _ (List.mem_of_getElem? (i := 9) rfl)) (ty := .double) (by decide) rfl rfl d3_55 58 rfl ?_
  intro T55 h55 X eT W
  have hk := Nat.le_trans hk (Keep.of_wr W).1
  have E_a1 := E_a1.wr W
  have F_west_a1 := F_west_a1.same W
  have F_south_a1 := F_south_a1.other W (Or.inr (slot_ne (Or.inr (hw _ (List.mem_of_getElem? (i := 42) rfl))) (Or.inr (hw _ (List.mem_of_getElem? (i := 40) rfl))) (by decide) (t := .double) (t' := .double) (by decide) (by decide)))
  have F_east_a1 := F_east_a1.other W (Or.inr (slot_ne (Or.inr (hw _ (List.mem_of_getElem? (i := 44) rfl))) (Or.inr (hw _ (List.mem_of_getElem? (i := 40) rfl))) (by decide) (t := .double) (t' := .double) (by decide) (by decide)))
  have F_north_a1 := F_north_a1.other W (Or.inr (slot_ne (Or.inr (hw _ (List.mem_of_getElem? (i := 46) rfl))) (Or.inr (hw _ (List.mem_of_getElem? (i := 40) rfl))) (by decide) (t := .double) (t' := .double) (by decide) (by decide)))
  have F_intervals_a1 := F_intervals_a1.other W (Or.inr (slot_ne (Or.inr (hw _ (List.mem_of_getElem? (i := 57) rfl))) (Or.inr (hw _ (List.mem_of_getElem? (i := 40) rfl))) (by decide) (t := (.array (.array .double))) (t' := .double) (by decide) (by decide)))
  have N := Fr.snoc X N g_a1
  have K := K.wr W (Or.inl (List.mem_of_getElem? (i := 0) rfl))
  have Zs := Nat.le_trans Zs (Keep.of_wr W).1
  refine own_aloadN X hx hby (.ref a1) d3_58 rfl rfl 59 rfl ?_
  refine own_dloadN X hx hby (own_h kd3) d3_59 rfl 60 rfl ?_
  refine own_putF X hx hby hZ hown (host := "") (Or.inl (hw _ (List.mem_of_getElem? (i := 41) rfl))) Via.refl eT F_south_a1 E_a1 (Or.inr ⟨(hw _ (List.mem_of_getElem? (i := 42) rfl)), rfl, hnm⟩) (hw _ (List.mem_of_getElem? (i := 9) rfl)) (ty := .double) (by decide) rfl rfl d3_60 63 rfl ?_
  intro T60 h60 X eT W
  have hk := Nat.le_trans hk (Keep.of_wr W).1
  have E_a1 := E_a1.wr W
  have F_west_a1 := F_west_a1.other W (Or.inr (slot_ne (Or.inr (hw _ (List.mem_of_getElem? (i := 40) rfl))) (Or.inr (hw _ (List.mem_of_getElem? (i := 42) rfl))) (by decide) (t := .double) (t' := .double) (by decide) (by decide)))
  have F_south_a1 := F_south_a1.same W
  have F_east_a1 := F_east_a1.other W (Or.inr (slot_ne (Or.inr (hw _ (List.mem_of_getElem? (i := 44) rfl))) (Or.inr (hw _ (List.mem_of_getElem? (i := 42) rfl))) (by decide) (t := .double) (t' := .double) (by decide) (by decide)))
  have F_north_a1 := F_north_a1.other W (Or.inr (slot_ne (Or.inr (hw _ (List.mem_of_getElem? (i := 46) rfl))) (Or.inr (hw _ (List.mem_of_getElem? (i := 42) rfl))) (by decide) (t := .double) (t' := .double) (by decide) (by decide)))
  have F_intervals_a1 := F_intervals_a1.other W (Or.inr (slot_ne (Or.inr (hw _ (List.mem_of_getElem? (i := 57) rfl))) (Or.inr (hw _ (List.mem_of_getElem? (i := 42) rfl))) (by decide) (t := (.array (.array .double))) (t' := .double) (by decide) (by decide)))
  have N := Fr.snoc X N g_a1
  have K := K.wr W (Or.inl (List.mem_of_getElem? (i := 0) rfl))
  have Zs := Nat.le_trans Zs (Keep.of_wr W).1
  refine own_aloadN X hx hby (.ref a1) d3_63 rfl rfl 64 rfl ?_
  refine own_dload X hx hby (own_h kd4) d3_64 rfl 66 rfl ?_
  refine own_putF X hx hby hZ hown (host := "") (Or.inl (hw _ (List.mem_of_getElem? (i := 43) rfl))) Via.refl eT F_east_a1 E_a1 (Or.inr ⟨(hw _ (List.mem_of_getElem? (i := 44) rfl)), rfl, hnm⟩) (hw _ (List.mem_of_getElem? (i := 9) rfl)) (ty := .double) (by decide) rfl rfl d3_66 69 rfl ?_
  intro T66 h66 X eT W
  have hk := Nat.le_trans hk (Keep.of_wr W).1
  have E_a1 := E_a1.wr W
  have F_west_a1 := F_west_a1.other W (Or.inr (slot_ne (Or.inr (hw _ (List.mem_of_getElem? (i := 40) rfl))) (Or.inr (hw _ (List.mem_of_getElem? (i := 44) rfl))) (by decide) (t := .double) (t' := .double) (by decide) (by decide)))
  have F_south_a1 := F_south_a1.other W (Or.inr (slot_ne (Or.inr (hw _ (List.mem_of_getElem? (i := 42) rfl))) (Or.inr (hw _ (List.mem_of_getElem? (i := 44) rfl))) (by decide) (t := .double) (t' := .double) (by decide) (by decide)))
  have F_east_a1 := F_east_a1.same W
  have F_north_a1 := F_north_a1.other W (Or.inr (slot_ne (Or.inr (hw _ (List.mem_of_getElem? (i := 46) rfl))) (Or.inr (hw _ (List.mem_of_getElem? (i := 44) rfl))) (by decide) (t := .double) (t' := .double) (by decide) (by decide)))
  have F_intervals_a1 := F_intervals_a1.other W (Or.inr (slot_ne (Or.inr (hw _ (List.mem_of_getElem? (i := 57) rfl))) (Or.inr (hw _ (List.mem_of_getElem? (i := 44) rfl))) (by decide) (t := (.array (.array .double))) (t' := .double) (by decide) (by decide)))
  have N := Fr.snoc X N g_a1
  have K := K.wr W (Or.inl (List.mem_of_getElem? (i := 0) rfl))
  have Zs := Nat.le_trans Zs (Keep.of_wr W).1
  refine own_aloadN X hx hby (.ref a1) d3_69 rfl rfl 70 rfl ?_
  refine own_dload X hx hby (own_h kd5) d3_70 rfl 72 rfl ?_
  refine own_putF X hx hby hZ hown (host := "") (Or.inl (hw _ (List.mem_of_getElem? (i := 45) rfl))) Via.refl eT F_north_a1 E_a1 (Or.inr ⟨(hw _ (List.mem_of_getElem? (i := 46) rfl)), rfl, hnm⟩) (hw _ (List.mem_of_getElem? (i := 9) rfl)) (ty := .double) (by decide) rfl rfl d3_72 75 rfl ?_
  intro T72 h72 X eT W
  have hk := Nat.le_trans hk (Keep.of_wr W).1
  have E_a1 := E_a1.wr W
  have F_west_a1 := F_west_a1.other W (Or.inr (slot_ne (Or.inr (hw _ (List.mem_of_getElem? (i := 40) rfl))) (Or.inr (hw _ (List.mem_of_getElem? (i := 46) rfl))) (by decide) (t := .double) (t' := .double) (by decide) (by decide)))
  have F_south_a1 := F_south_a1.other W (Or.inr (slot_ne (Or.inr (hw _ (List.mem_of_getElem? (i := 42) rfl))) (Or.inr (hw _ (List.mem_of_getElem? (i := 46) rfl))) (by decide) (t := .double) (t' := .double) (by decide) (by decide)))
  have F_east_a1 := F_east_a1.other W (Or.inr (slot_ne (Or.inr (hw _ (List.mem_of_getElem? (i := 44) rfl))) (Or.inr (hw _ (List.mem_of_getElem? (i := 46) rfl))) (by decide) (t := .double) (t' := .double) (by decide) (by decide)))
  have F_north_a1 := F_north_a1.same W
  have F_intervals_a1 := F_intervals_a1.other W (Or.inr (slot_ne (Or.inr (hw _ (List.mem_of_getElem? (i := 57) rfl))) (Or.inr (hw _ (List.mem_of_getElem? (i := 46) rfl))) (by decide) (t := (.array (.array .double))) (t' := .double) (by decide) (by decide)))
  have N := Fr.snoc X N g_a1
  have K := K.wr W (Or.inl (List.mem_of_getElem? (i := 0) rfl))
  have Zs := Nat.le_trans Zs (Keep.of_wr W).1
  refine own_aloadN X hx hby (.ref a1) d3_75 rfl rfl 76 rfl ?_
  refine own_dloadN X hx hby (own_h kd2) d3_76 rfl 77 rfl ?_
  refine own_dload X hx hby (own_h kd4) d3_77 rfl 79 rfl ?_
  refine own_callS X hx hby hZ (st := [(.ref a1)]) [(.double (own_h kd2)), (.double (own_h kd4))] rfl hown (hw _ (List.mem_of_getElem? (i := 47) rfl)) (hw _ (List.mem_of_getElem? (i := 48) rfl)) (hw _ (List.mem_of_getElem? (i := 10) rfl)) (hw _ (List.mem_of_getElem? (i := 49) rfl)) (by decide) d3_79 (rm7_C l Z a0 hw kd2 kd4 h72 n0 Zs b_kd2 b_kd4 iN i1 i2) eT pd_2 rfl (by rw [hml]; rfl) (by decide) 1 rfl (by decide) (by decide) (by decide) 82 rfl ?_
  intro T79 L9 v9 X hQ
  obtain ⟨h79, eT⟩ : ∃ z, T79.heap = z := ⟨_, rfl⟩
  rw [eT] at hQ
  have lt_a1 := E_a1.lt
  obtain ⟨b79b95, b79b101, b79b115, rfl, N9, Kc, hs_b79b95, hs_b79b101, hs_b79b115, A_b79b95, E_b79b95, A_b79b101, E_b79b101, A_b79b115, E_b79b115⟩ := hQ
  have g_b79b95 : n0 ≤ b79b95 := Nat.le_trans Zs hs_b79b95
  have sz_b79b95 : h0.size ≤ b79b95 := Nat.le_trans K.1 hs_b79b95
  have ne_a1_b79b95 : a1 ≠ b79b95 := Nat.ne_of_lt (Nat.lt_of_lt_of_le lt_a1 hs_b79b95)
  have g_b79b101 : n0 ≤ b79b101 := Nat.le_trans Zs hs_b79b101
  have sz_b79b101 : h0.size ≤ b79b101 := Nat.le_trans K.1 hs_b79b101
  have ne_a1_b79b101 : a1 ≠ b79b101 := Nat.ne_of_lt (Nat.lt_of_lt_of_le lt_a1 hs_b79b101)
  have g_b79b115 : n0 ≤ b79b115 := Nat.le_trans Zs hs_b79b115
  have sz_b79b115 : h0.size ≤ b79b115 := Nat.le_trans K.1 hs_b79b115
  have ne_a1_b79b115 : a1 ≠ b79b115 := Nat.ne_of_lt (Nat.lt_of_lt_of_le lt_a1 hs_b79b115)
  have hk := Nat.le_trans hk Kc.1
  have E_a1 := E_a1.keep Kc
  have F_west_a1 := F_west_a1.keep Kc nin0
  have F_south_a1 := F_south_a1.keep Kc nin0
  have F_east_a1 := F_east_a1.keep Kc nin0
  have F_north_a1 := F_north_a1.keep Kc nin0
  have F_intervals_a1 := F_intervals_a1.keep Kc nin0
  have K := K.trans Kc all0
  have Zs := Nat.le_trans Zs Kc.1
  have N := Fr.app N N9
  show Go p e below _ T79 (mkF m 82 #[.val (.ref a1), .val (.double (own_h kd2)), .second, .val (.double (own_h kd3)), .second, .val (.double (own_h kd4)), .second, .val (.double (own_h kd5)), .second] [(.ref b79b95), (.ref a1)])
  refine own_putF X hx hby hZ hown (host := "") (Or.inl (hw _ (List.mem_of_getElem? (i := 56) rfl))) Via.refl eT F_intervals_a1 E_a1 (Or.inr ⟨(hw _ (List.mem_of_getElem? (i := 57) rfl)), rfl, hnm⟩) (hw _ (List.mem_of_getElem? (i := 9) rfl)) (ty := (.array (.array .double))) (by decide) rfl rfl d3_82 85 rfl ?_
  intro T82 h82 X eT W
  have hk := Nat.le_trans hk (Keep.of_wr W).1
  have E_a1 := E_a1.wr W
  have F_west_a1 := F_west_a1.other W (Or.inr (slot_ne (Or.inr (hw _ (List.mem_of_getElem? (i := 40) rfl))) (Or.inr (hw _ (List.mem_of_getElem? (i := 57) rfl))) (by decide) (t := .double) (t' := (.array (.array .double))) (by decide) (by decide)))
  have F_south_a1 := F_south_a1.other W (Or.inr (slot_ne (Or.inr (hw _ (List.mem_of_getElem? (i := 42) rfl))) (Or.inr (hw _ (List.mem_of_getElem? (i := 57) rfl))) (by decide) (t := .double) (t' := (.array (.array .double))) (by decide) (by decide)))
  have F_east_a1 := F_east_a1.other W (Or.inr (slot_ne (Or.inr (hw _ (List.mem_of_getElem? (i := 44) rfl))) (Or.inr (hw _ (List.mem_of_getElem? (i := 57) rfl))) (by decide) (t := .double) (t' := (.array (.array .double))) (by decide) (by decide)))
  have F_north_a1 := F_north_a1.other W (Or.inr (slot_ne (Or.inr (hw _ (List.mem_of_getElem? (i := 46) rfl))) (Or.inr (hw _ (List.mem_of_getElem? (i := 57) rfl))) (by decide) (t := .double) (t' := (.array (.array .double))) (by decide) (by decide)))
  have F_intervals_a1 := F_intervals_a1.same W
  have A_b79b95 := A_b79b95.other W (Ne.symm ne_a1_b79b95)
  have E_b79b95 := E_b79b95.wr W
  have A_b79b101 := A_b79b101.other W (Ne.symm ne_a1_b79b101)
  have E_b79b101 := E_b79b101.wr W
  have A_b79b115 := A_b79b115.other W (Ne.symm ne_a1_b79b115)
  have E_b79b115 := E_b79b115.wr W
  have N := Fr.snoc X N g_a1
  have K := K.wr W (Or.inl (List.mem_of_getElem? (i := 0) rfl))
  have Zs := Nat.le_trans Zs (Keep.of_wr W).1
  refine own_retW X hx hby hS (by rw [eT]; exact hk) hret hlk d3_85 (by decide) (by decide) ?_
  rw [eT]
  exact ⟨b79b95, b79b101, b79b115, rfl, N, K, sz_b79b95, sz_b79b101, sz_b79b115, E_a1, F_west_a1, F_south_a1, F_east_a1, F_north_a1, F_intervals_a1, A_b79b95, E_b79b95, A_b79b101, E_b79b101, A_b79b115, E_b79b115⟩
theorem ef_3_D (a1 : Addr) (kd2 : UInt64) (kd3 : UInt64) (kd4 : UInt64) (kd5 : UInt64) (m : MethodId) : entryFrame m #[(.ref a1), (.double kd2), (.double kd3), (.double kd4), (.double kd5)] 9 = mkF m 0 #[.val (.ref a1), .val (.double kd2), .second, .val (.double kd3), .second, .val (.double kd4), .second, .val (.double kd5), .second] [] := by first | (simp [entryFrame, mkF, argsToLocals, Value.category]; done) | rfl
def Q3_D (Z : State) (a1 : Addr) (kd2 : Nat) (kd3 : Nat) (kd4 : Nat) (kd5 : Nat) (w_west_a1 : Nat) (w_south_a1 : Nat) (w_east_a1 : Nat) (w_north_a1 : Nat) (w_intervals_a1 : Value) (h0 : Heap) (n0 : Nat) (v : Option Value) (h : Heap) (L : List Loc) : Prop := ∃ (b79b144 : Addr) (b79b150 : Addr) (b79b164 : Addr), v = none ∧ Fr n0 L ∧ Keep h0 h [a1] ∧ h0.size ≤ b79b144 ∧ h0.size ≤ b79b150 ∧ h0.size ≤ b79b164 ∧ Exa Z h a1 "com/example/kvadtree/kvadtree/Box" ∧ Fld Z h a1 "com/example/kvadtree/kvadtree/Box" "west" "D" (.double (own_h kd2)) ∧ Fld Z h a1 "com/example/kvadtree/kvadtree/Box" "south" "D" (.double (own_h kd3)) ∧ Fld Z h a1 "com/example/kvadtree/kvadtree/Box" "east" "D" (.double (own_h kd4)) ∧ Fld Z h a1 "com/example/kvadtree/kvadtree/Box" "north" "D" (.double (own_h kd5)) ∧ Fld Z h a1 "com/example/kvadtree/kvadtree/Box" "intervals" "[[D" (.ref b79b144) ∧ Afn Z h b79b144 (.array .double) 2 (upd (upd (fun _ => .null) 0 (.ref b79b150)) 1 (.ref b79b164)) ∧ Exa Z h b79b144 "[[D" ∧ Afn Z h b79b150 .double 2 (upd (upd (fun _ => (.double 0)) 0 (.double (own_h kd2))) 1 (.double (own_h kd4))) ∧ Exa Z h b79b150 "[D" ∧ Afn Z h b79b164 .double 2 (upd (upd (fun _ => (.double 0)) 0 (.double (own_h 760))) 1 (.double (own_h 760))) ∧ Exa Z h b79b164 "[D"
set_option maxRecDepth 65536 in
set_option maxHeartbeats 40000000 in
theorem rm3_D (l : Launch) (Z : State) (a0 : Array Value) (hw : ∀ d ∈ tables_1, d.before a0 Z = true) (a1 : Addr) (kd2 : Nat) (kd3 : Nat) (kd4 : Nat) (kd5 : Nat) (w_west_a1 : Nat) (w_south_a1 : Nat) (w_east_a1 : Nat) (w_north_a1 : Nat) (w_intervals_a1 : Value) (h0 : Heap) (n0 : Nat) (Zs : n0 ≤ h0.size) (b_kd2 : kd2 < 801) (b_kd3 : kd3 < 801) (b_kd4 : kd4 < 801) (b_kd5 : kd5 < 801) (hw1 : ¬ kd2 < 40) (hw2 : ¬ 760 < kd2) (hs1 : ¬ kd3 < 220) (hs2 : ¬ 580 < kd3) (he1 : ¬ kd4 < 40) (he2 : ¬ 760 < kd4) (hn1 : ¬ kd5 < 220) (hn2 : ¬ 580 < kd5) (hsn : ¬ kd5 < kd3) (iN : ¬ kd4 < kd2) (i1 : kd2 = 40) (i2 : ¬ kd4 = 760) (E_a1 : Exa Z h0 a1 "com/example/kvadtree/kvadtree/Box") (b_w_west_a1 : w_west_a1 < 801) (F_west_a1 : Fld Z h0 a1 "com/example/kvadtree/kvadtree/Box" "west" "D" (.double (own_h w_west_a1))) (b_w_south_a1 : w_south_a1 < 801) (F_south_a1 : Fld Z h0 a1 "com/example/kvadtree/kvadtree/Box" "south" "D" (.double (own_h w_south_a1))) (b_w_east_a1 : w_east_a1 < 801) (F_east_a1 : Fld Z h0 a1 "com/example/kvadtree/kvadtree/Box" "east" "D" (.double (own_h w_east_a1))) (b_w_north_a1 : w_north_a1 < 801) (F_north_a1 : Fld Z h0 a1 "com/example/kvadtree/kvadtree/Box" "north" "D" (.double (own_h w_north_a1))) (F_intervals_a1 : Fld Z h0 a1 "com/example/kvadtree/kvadtree/Box" "intervals" "[[D" w_intervals_a1) (g_a1 : n0 ≤ a1) :
    Met1W l Z (⟨"com/example/kvadtree/kvadtree/Box", "<init>", "(DDDD)V"⟩ : MethodName) prog_2_method_1_code 9 none ({ frames := 1, cells := 11, slots := 94, locals := 17 } : Room) #[(.ref a1), (.double (own_h kd2)), (.double (own_h kd3)), (.double (own_h kd4)), (.double (own_h kd5))] h0 (Q3_D Z a1 kd2 kd3 kd4 kd5 w_west_a1 w_south_a1 w_east_a1 w_north_a1 w_intervals_a1 h0 n0) := by
  refine own_met_ofW (plainFor_of_name pn_7) (ef_3_D a1 (own_h kd2) (own_h kd3) (own_h kd4) (own_h kd5)) ?_
  intro p e s m below meth c s₁ vm0 X hx hby hml hZ hown hnm hret hlk eT hS hs0
  have hown : (s.setVm vm0).vm.findClass "com/example/kvadtree/kvadtree/Box" = some m.cls := hown
  have hk : 0 ≤ h0.size := Nat.zero_le _
  have N := Fr.nil n0
  have K := Keep.refl h0 [a1]
  refine own_aloadN X hx hby (.ref a1) d3_0 rfl rfl 1 rfl ?_
  refine own_initO X hx hby hZ hown (hw _ (List.mem_of_getElem? (i := 14) rfl)) (hw _ (List.mem_of_getElem? (i := 15) rfl)) (hw _ (List.mem_of_getElem? (i := 16) rfl)) eT (by rw [hml]; rfl) d3_1 (by decide) 0 rfl (by decide) 4 rfl ?_
  intro T1 X eT
  refine own_ldcS X hx hby hZ hown (hw _ (List.mem_of_getElem? (i := 17) rfl)) (own_wS hw) eT hS hk d3_4 16 (by decide) (by decide) (by decide) (by decide) 6 rfl ?_
  intro T4 h4 lit4 vm4 k4 X eT Ex hS hk hZ hown
  have E_a1 := E_a1.ext Ex
  have F_west_a1 := F_west_a1.ext Ex
  have F_south_a1 := F_south_a1.ext Ex
  have F_east_a1 := F_east_a1.ext Ex
  have F_north_a1 := F_north_a1.ext Ex
  have F_intervals_a1 := F_intervals_a1.ext Ex
  have K := K.ext Ex
  have Zs := Nat.le_trans Zs Ex.1
  refine own_dloadN X hx hby (own_h kd2) d3_6 rfl 7 rfl ?_
  refine own_callS X hx hby hZ (st := []) [(.ref lit4), (.double (own_h kd2))] rfl hown (hw _ (List.mem_of_getElem? (i := 25) rfl)) (hw _ (List.mem_of_getElem? (i := 26) rfl)) (hw _ (List.mem_of_getElem? (i := 27) rfl)) (hw _ (List.mem_of_getElem? (i := 28) rfl)) (by decide) d3_7 (rm5 l Z a0 hw lit4 kd2 h4 n0 Zs b_kd2 hw1 hw2) eT pd_6 rfl (by rw [hml]; rfl) (by decide) 0 rfl (by decide) (by decide) (by decide) 10 rfl ?_
  intro T7 L9 v9 X hQ
  obtain ⟨rfl, N9, eT⟩ := hQ
  have N := Fr.app N N9
  show Go p e below _ T7 (mkF m 10 #[.val (.ref a1), .val (.double (own_h kd2)), .second, .val (.double (own_h kd3)), .second, .val (.double (own_h kd4)), .second, .val (.double (own_h kd5)), .second] [])
  refine own_ldcS X hx hby hZ hown (hw _ (List.mem_of_getElem? (i := 31) rfl)) (own_wS hw) eT hS hk d3_10 20 (by decide) (by decide) (by decide) (by decide) 12 rfl ?_
  intro T10 h10 lit10 vm10 k10 X eT Ex hS hk hZ hown
  have E_a1 := E_a1.ext Ex
  have F_west_a1 := F_west_a1.ext Ex
  have F_south_a1 := F_south_a1.ext Ex
  have F_east_a1 := F_east_a1.ext Ex
  have F_north_a1 := F_north_a1.ext Ex
  have F_intervals_a1 := F_intervals_a1.ext Ex
  have K := K.ext Ex
  have Zs := Nat.le_trans Zs Ex.1
  refine own_dloadN X hx hby (own_h kd3) d3_12 rfl 13 rfl ?_
  refine own_callS X hx hby hZ (st := []) [(.ref lit10), (.double (own_h kd3))] rfl hown (hw _ (List.mem_of_getElem? (i := 32) rfl)) (hw _ (List.mem_of_getElem? (i := 33) rfl)) (hw _ (List.mem_of_getElem? (i := 27) rfl)) (hw _ (List.mem_of_getElem? (i := 34) rfl)) (by decide) d3_13 (rm6 l Z a0 hw lit10 kd3 h10 n0 Zs b_kd3 hs1 hs2) eT pd_6 rfl (by rw [hml]; rfl) (by decide) 0 rfl (by decide) (by decide) (by decide) 16 rfl ?_
  intro T13 L9 v9 X hQ
  obtain ⟨rfl, N9, eT⟩ := hQ
  have N := Fr.app N N9
  show Go p e below _ T13 (mkF m 16 #[.val (.ref a1), .val (.double (own_h kd2)), .second, .val (.double (own_h kd3)), .second, .val (.double (own_h kd4)), .second, .val (.double (own_h kd5)), .second] [])
  refine own_ldcS X hx hby hZ hown (hw _ (List.mem_of_getElem? (i := 37) rfl)) (own_wS hw) eT hS hk d3_16 16 (by decide) (by decide) (by decide) (by decide) 18 rfl ?_
  intro T16 h16 lit16 vm16 k16 X eT Ex hS hk hZ hown
  have E_a1 := E_a1.ext Ex
  have F_west_a1 := F_west_a1.ext Ex
  have F_south_a1 := F_south_a1.ext Ex
  have F_east_a1 := F_east_a1.ext Ex
  have F_north_a1 := F_north_a1.ext Ex
  have F_intervals_a1 := F_intervals_a1.ext Ex
  have K := K.ext Ex
  have Zs := Nat.le_trans Zs Ex.1
  refine own_dload X hx hby (own_h kd4) d3_18 rfl 20 rfl ?_
  refine own_callS X hx hby hZ (st := []) [(.ref lit16), (.double (own_h kd4))] rfl hown (hw _ (List.mem_of_getElem? (i := 25) rfl)) (hw _ (List.mem_of_getElem? (i := 26) rfl)) (hw _ (List.mem_of_getElem? (i := 27) rfl)) (hw _ (List.mem_of_getElem? (i := 28) rfl)) (by decide) d3_20 (rm5 l Z a0 hw lit16 kd4 h16 n0 Zs b_kd4 he1 he2) eT pd_6 rfl (by rw [hml]; rfl) (by decide) 0 rfl (by decide) (by decide) (by decide) 23 rfl ?_
  intro T20 L9 v9 X hQ
  obtain ⟨rfl, N9, eT⟩ := hQ
  have N := Fr.app N N9
  show Go p e below _ T20 (mkF m 23 #[.val (.ref a1), .val (.double (own_h kd2)), .second, .val (.double (own_h kd3)), .second, .val (.double (own_h kd4)), .second, .val (.double (own_h kd5)), .second] [])
  refine own_ldcS X hx hby hZ hown (hw _ (List.mem_of_getElem? (i := 38) rfl)) (own_wS hw) eT hS hk d3_23 20 (by decide) (by decide) (by decide) (by decide) 25 rfl ?_
  intro T23 h23 lit23 vm23 k23 X eT Ex hS hk hZ hown
  have E_a1 := E_a1.ext Ex
  have F_west_a1 := F_west_a1.ext Ex
  have F_south_a1 := F_south_a1.ext Ex
  have F_east_a1 := F_east_a1.ext Ex
  have F_north_a1 := F_north_a1.ext Ex
  have F_intervals_a1 := F_intervals_a1.ext Ex
  have K := K.ext Ex
  have Zs := Nat.le_trans Zs Ex.1
  refine own_dload X hx hby (own_h kd5) d3_25 rfl 27 rfl ?_
  refine own_callS X hx hby hZ (st := []) [(.ref lit23), (.double (own_h kd5))] rfl hown (hw _ (List.mem_of_getElem? (i := 32) rfl)) (hw _ (List.mem_of_getElem? (i := 33) rfl)) (hw _ (List.mem_of_getElem? (i := 27) rfl)) (hw _ (List.mem_of_getElem? (i := 34) rfl)) (by decide) d3_27 (rm6 l Z a0 hw lit23 kd5 h23 n0 Zs b_kd5 hn1 hn2) eT pd_6 rfl (by rw [hml]; rfl) (by decide) 0 rfl (by decide) (by decide) (by decide) 30 rfl ?_
  intro T27 L9 v9 X hQ
  obtain ⟨rfl, N9, eT⟩ := hQ
  have N := Fr.app N N9
  show Go p e below _ T27 (mkF m 30 #[.val (.ref a1), .val (.double (own_h kd2)), .second, .val (.double (own_h kd3)), .second, .val (.double (own_h kd4)), .second, .val (.double (own_h kd5)), .second] [])
  refine own_dloadN X hx hby (own_h kd3) d3_30 rfl 31 rfl ?_
  refine own_dload X hx hby (own_h kd5) d3_31 rfl 33 rfl ?_
  have c34 : ¬ kd5 < kd3 := hsn
  refine own_dcmp_le X hx hby b_kd3 b_kd5 d3_33 d3_34 53 37 (by decide) rfl (fun _ => ?_) (fun q => absurd q c34)
  refine own_aloadN X hx hby (.ref a1) d3_53 rfl rfl 54 rfl ?_
  refine own_dloadN X hx hby (own_h kd2) d3_54 rfl 55 rfl ?_
  refine own_putF X hx hby hZ hown (host := "") (Or.inl (hw _ (List.mem_of_getElem? (i := 39) rfl))) Via.refl eT F_west_a1 E_a1 (Or.inr ⟨(hw _ (List.mem_of_getElem? (i := 40) rfl)), rfl, hnm⟩) (hw _ (List.mem_of_getElem? (i := 9) rfl)) (ty := .double) (by decide) rfl rfl d3_55 58 rfl ?_
  intro T55 h55 X eT W
  have hk := Nat.le_trans hk (Keep.of_wr W).1
  have E_a1 := E_a1.wr W
  have F_west_a1 := F_west_a1.same W
  have F_south_a1 := F_south_a1.other W (Or.inr (slot_ne (Or.inr (hw _ (List.mem_of_getElem? (i := 42) rfl))) (Or.inr (hw _ (List.mem_of_getElem? (i := 40) rfl))) (by decide) (t := .double) (t' := .double) (by decide) (by decide)))
  have F_east_a1 := F_east_a1.other W (Or.inr (slot_ne (Or.inr (hw _ (List.mem_of_getElem? (i := 44) rfl))) (Or.inr (hw _ (List.mem_of_getElem? (i := 40) rfl))) (by decide) (t := .double) (t' := .double) (by decide) (by decide)))
  have F_north_a1 := F_north_a1.other W (Or.inr (slot_ne (Or.inr (hw _ (List.mem_of_getElem? (i := 46) rfl))) (Or.inr (hw _ (List.mem_of_getElem? (i := 40) rfl))) (by decide) (t := .double) (t' := .double) (by decide) (by decide)))
  have F_intervals_a1 := F_intervals_a1.other W (Or.inr (slot_ne (Or.inr (hw _ (List.mem_of_getElem? (i := 57) rfl))) (Or.inr (hw _ (List.mem_of_getElem? (i := 40) rfl))) (by decide) (t := (.array (.array .double))) (t' := .double) (by decide) (by decide)))
  have N := Fr.snoc X N g_a1
  have K := K.wr W (Or.inl (List.mem_of_getElem? (i := 0) rfl))
  have Zs := Nat.le_trans Zs (Keep.of_wr W).1
  refine own_aloadN X hx hby (.ref a1) d3_58 rfl rfl 59 rfl ?_
  refine own_dloadN X hx hby (own_h kd3) d3_59 rfl 60 rfl ?_
  refine own_putF X hx hby hZ hown (host := "") (Or.inl (hw _ (List.mem_of_getElem? (i := 41) rfl))) Via.refl eT F_south_a1 E_a1 (Or.inr ⟨(hw _ (List.mem_of_getElem? (i := 42) rfl)), rfl, hnm⟩) (hw _ (List.mem_of_getElem? (i := 9) rfl)) (ty := .double) (by decide) rfl rfl d3_60 63 rfl ?_
  intro T60 h60 X eT W
  have hk := Nat.le_trans hk (Keep.of_wr W).1
  have E_a1 := E_a1.wr W
  have F_west_a1 := F_west_a1.other W (Or.inr (slot_ne (Or.inr (hw _ (List.mem_of_getElem? (i := 40) rfl))) (Or.inr (hw _ (List.mem_of_getElem? (i := 42) rfl))) (by decide) (t := .double) (t' := .double) (by decide) (by decide)))
  have F_south_a1 := F_south_a1.same W
  have F_east_a1 := F_east_a1.other W (Or.inr (slot_ne (Or.inr (hw _ (List.mem_of_getElem? (i := 44) rfl))) (Or.inr (hw _ (List.mem_of_getElem? (i := 42) rfl))) (by decide) (t := .double) (t' := .double) (by decide) (by decide)))
  have F_north_a1 := F_north_a1.other W (Or.inr (slot_ne (Or.inr (hw _ (List.mem_of_getElem? (i := 46) rfl))) (Or.inr (hw _ (List.mem_of_getElem? (i := 42) rfl))) (by decide) (t := .double) (t' := .double) (by decide) (by decide)))
  have F_intervals_a1 := F_intervals_a1.other W (Or.inr (slot_ne (Or.inr (hw _ (List.mem_of_getElem? (i := 57) rfl))) (Or.inr (hw _ (List.mem_of_getElem? (i := 42) rfl))) (by decide) (t := (.array (.array .double))) (t' := .double) (by decide) (by decide)))
  have N := Fr.snoc X N g_a1
  have K := K.wr W (Or.inl (List.mem_of_getElem? (i := 0) rfl))
  have Zs := Nat.le_trans Zs (Keep.of_wr W).1
  refine own_aloadN X hx hby (.ref a1) d3_63 rfl rfl 64 rfl ?_
  refine own_dload X hx hby (own_h kd4) d3_64 rfl 66 rfl ?_
  refine own_putF X hx hby hZ hown (host := "") (Or.inl (hw _ (List.mem_of_getElem? (i := 43) rfl))) Via.refl eT F_east_a1 E_a1 (Or.inr ⟨(hw _ (List.mem_of_getElem? (i := 44) rfl)), rfl, hnm⟩) (hw _ (List.mem_of_getElem? (i := 9) rfl)) (ty := .double) (by decide) rfl rfl d3_66 69 rfl ?_
  intro T66 h66 X eT W
  have hk := Nat.le_trans hk (Keep.of_wr W).1
  have E_a1 := E_a1.wr W
  have F_west_a1 := F_west_a1.other W (Or.inr (slot_ne (Or.inr (hw _ (List.mem_of_getElem? (i := 40) rfl))) (Or.inr (hw _ (List.mem_of_getElem? (i := 44) rfl))) (by decide) (t := .double) (t' := .double) (by decide) (by decide)))
  have F_south_a1 := F_south_a1.other W (Or.inr (slot_ne (Or.inr (hw _ (List.mem_of_getElem? (i := 42) rfl))) (Or.inr (hw _ (List.mem_of_getElem? (i := 44) rfl))) (by decide) (t := .double) (t' := .double) (by decide) (by decide)))
  have F_east_a1 := F_east_a1.same W
  have F_north_a1 := F_north_a1.other W (Or.inr (slot_ne (Or.inr (hw _ (List.mem_of_getElem? (i := 46) rfl))) (Or.inr (hw _ (List.mem_of_getElem? (i := 44) rfl))) (by decide) (t := .double) (t' := .double) (by decide) (by decide)))
  have F_intervals_a1 := F_intervals_a1.other W (Or.inr (slot_ne (Or.inr (hw _ (List.mem_of_getElem? (i := 57) rfl))) (Or.inr (hw _ (List.mem_of_getElem? (i := 44) rfl))) (by decide) (t := (.array (.array .double))) (t' := .double) (by decide) (by decide)))
  have N := Fr.snoc X N g_a1
  have K := K.wr W (Or.inl (List.mem_of_getElem? (i := 0) rfl))
  have Zs := Nat.le_trans Zs (Keep.of_wr W).1
  refine own_aloadN X hx hby (.ref a1) d3_69 rfl rfl 70 rfl ?_
  refine own_dload X hx hby (own_h kd5) d3_70 rfl 72 rfl ?_
  refine own_putF X hx hby hZ hown (host := "") (Or.inl (hw _ (List.mem_of_getElem? (i := 45) rfl))) Via.refl eT F_north_a1 E_a1 (Or.inr ⟨(hw _ (List.mem_of_getElem? (i := 46) rfl)), rfl, hnm⟩) (hw _ (List.mem_of_getElem? (i := 9) rfl)) (ty := .double) (by decide) rfl rfl d3_72 75 rfl ?_
  intro T72 h72 X eT W
  have hk := Nat.le_trans hk (Keep.of_wr W).1
  have E_a1 := E_a1.wr W
  have F_west_a1 := F_west_a1.other W (Or.inr (slot_ne (Or.inr (hw _ (List.mem_of_getElem? (i := 40) rfl))) (Or.inr (hw _ (List.mem_of_getElem? (i := 46) rfl))) (by decide) (t := .double) (t' := .double) (by decide) (by decide)))
  have F_south_a1 := F_south_a1.other W (Or.inr (slot_ne (Or.inr (hw _ (List.mem_of_getElem? (i := 42) rfl))) (Or.inr (hw _ (List.mem_of_getElem? (i := 46) rfl))) (by decide) (t := .double) (t' := .double) (by decide) (by decide)))
  have F_east_a1 := F_east_a1.other W (Or.inr (slot_ne (Or.inr (hw _ (List.mem_of_getElem? (i := 44) rfl))) (Or.inr (hw _ (List.mem_of_getElem? (i := 46) rfl))) (by decide) (t := .double) (t' := .double) (by decide) (by decide)))
  have F_north_a1 := F_north_a1.same W
  have F_intervals_a1 := F_intervals_a1.other W (Or.inr (slot_ne (Or.inr (hw _ (List.mem_of_getElem? (i := 57) rfl))) (Or.inr (hw _ (List.mem_of_getElem? (i := 46) rfl))) (by decide) (t := (.array (.array .double))) (t' := .double) (by decide) (by decide)))
  have N := Fr.snoc X N g_a1
  have K := K.wr W (Or.inl (List.mem_of_getElem? (i := 0) rfl))
  have Zs := Nat.le_trans Zs (Keep.of_wr W).1
  refine own_aloadN X hx hby (.ref a1) d3_75 rfl rfl 76 rfl ?_
  refine own_dloadN X hx hby (own_h kd2) d3_76 rfl 77 rfl ?_
  refine own_dload X hx hby (own_h kd4) d3_77 rfl 79 rfl ?_
  refine own_callS X hx hby hZ (st := [(.ref a1)]) [(.double (own_h kd2)), (.double (own_h kd4))] rfl hown (hw _ (List.mem_of_getElem? (i := 47) rfl)) (hw _ (List.mem_of_getElem? (i := 48) rfl)) (hw _ (List.mem_of_getElem? (i := 10) rfl)) (hw _ (List.mem_of_getElem? (i := 49) rfl)) (by decide) d3_79 (rm7_D l Z a0 hw kd2 kd4 h72 n0 Zs b_kd2 b_kd4 iN i1 i2) eT pd_2 rfl (by rw [hml]; rfl) (by decide) 1 rfl (by decide) (by decide) (by decide) 82 rfl ?_
  intro T79 L9 v9 X hQ
  obtain ⟨h79, eT⟩ : ∃ z, T79.heap = z := ⟨_, rfl⟩
  rw [eT] at hQ
  have lt_a1 := E_a1.lt
  obtain ⟨b79b144, b79b150, b79b164, rfl, N9, Kc, hs_b79b144, hs_b79b150, hs_b79b164, A_b79b144, E_b79b144, A_b79b150, E_b79b150, A_b79b164, E_b79b164⟩ := hQ
  have g_b79b144 : n0 ≤ b79b144 := Nat.le_trans Zs hs_b79b144
  have sz_b79b144 : h0.size ≤ b79b144 := Nat.le_trans K.1 hs_b79b144
  have ne_a1_b79b144 : a1 ≠ b79b144 := Nat.ne_of_lt (Nat.lt_of_lt_of_le lt_a1 hs_b79b144)
  have g_b79b150 : n0 ≤ b79b150 := Nat.le_trans Zs hs_b79b150
  have sz_b79b150 : h0.size ≤ b79b150 := Nat.le_trans K.1 hs_b79b150
  have ne_a1_b79b150 : a1 ≠ b79b150 := Nat.ne_of_lt (Nat.lt_of_lt_of_le lt_a1 hs_b79b150)
  have g_b79b164 : n0 ≤ b79b164 := Nat.le_trans Zs hs_b79b164
  have sz_b79b164 : h0.size ≤ b79b164 := Nat.le_trans K.1 hs_b79b164
  have ne_a1_b79b164 : a1 ≠ b79b164 := Nat.ne_of_lt (Nat.lt_of_lt_of_le lt_a1 hs_b79b164)
  have hk := Nat.le_trans hk Kc.1
  have E_a1 := E_a1.keep Kc
  have F_west_a1 := F_west_a1.keep Kc nin0
  have F_south_a1 := F_south_a1.keep Kc nin0
  have F_east_a1 := F_east_a1.keep Kc nin0
  have F_north_a1 := F_north_a1.keep Kc nin0
  have F_intervals_a1 := F_intervals_a1.keep Kc nin0
  have K := K.trans Kc all0
  have Zs := Nat.le_trans Zs Kc.1
  have N := Fr.app N N9
  show Go p e below _ T79 (mkF m 82 #[.val (.ref a1), .val (.double (own_h kd2)), .second, .val (.double (own_h kd3)), .second, .val (.double (own_h kd4)), .second, .val (.double (own_h kd5)), .second] [(.ref b79b144), (.ref a1)])
  refine own_putF X hx hby hZ hown (host := "") (Or.inl (hw _ (List.mem_of_getElem? (i := 56) rfl))) Via.refl eT F_intervals_a1 E_a1 (Or.inr ⟨(hw _ (List.mem_of_getElem? (i := 57) rfl)), rfl, hnm⟩) (hw _ (List.mem_of_getElem? (i := 9) rfl)) (ty := (.array (.array .double))) (by decide) rfl rfl d3_82 85 rfl ?_
  intro T82 h82 X eT W
  have hk := Nat.le_trans hk (Keep.of_wr W).1
  have E_a1 := E_a1.wr W
  have F_west_a1 := F_west_a1.other W (Or.inr (slot_ne (Or.inr (hw _ (List.mem_of_getElem? (i := 40) rfl))) (Or.inr (hw _ (List.mem_of_getElem? (i := 57) rfl))) (by decide) (t := .double) (t' := (.array (.array .double))) (by decide) (by decide)))
  have F_south_a1 := F_south_a1.other W (Or.inr (slot_ne (Or.inr (hw _ (List.mem_of_getElem? (i := 42) rfl))) (Or.inr (hw _ (List.mem_of_getElem? (i := 57) rfl))) (by decide) (t := .double) (t' := (.array (.array .double))) (by decide) (by decide)))
  have F_east_a1 := F_east_a1.other W (Or.inr (slot_ne (Or.inr (hw _ (List.mem_of_getElem? (i := 44) rfl))) (Or.inr (hw _ (List.mem_of_getElem? (i := 57) rfl))) (by decide) (t := .double) (t' := (.array (.array .double))) (by decide) (by decide)))
  have F_north_a1 := F_north_a1.other W (Or.inr (slot_ne (Or.inr (hw _ (List.mem_of_getElem? (i := 46) rfl))) (Or.inr (hw _ (List.mem_of_getElem? (i := 57) rfl))) (by decide) (t := .double) (t' := (.array (.array .double))) (by decide) (by decide)))
  have F_intervals_a1 := F_intervals_a1.same W
  have A_b79b144 := A_b79b144.other W (Ne.symm ne_a1_b79b144)
  have E_b79b144 := E_b79b144.wr W
  have A_b79b150 := A_b79b150.other W (Ne.symm ne_a1_b79b150)
  have E_b79b150 := E_b79b150.wr W
  have A_b79b164 := A_b79b164.other W (Ne.symm ne_a1_b79b164)
  have E_b79b164 := E_b79b164.wr W
  have N := Fr.snoc X N g_a1
  have K := K.wr W (Or.inl (List.mem_of_getElem? (i := 0) rfl))
  have Zs := Nat.le_trans Zs (Keep.of_wr W).1
  refine own_retW X hx hby hS (by rw [eT]; exact hk) hret hlk d3_85 (by decide) (by decide) ?_
  rw [eT]
  exact ⟨b79b144, b79b150, b79b164, rfl, N, K, sz_b79b144, sz_b79b150, sz_b79b164, E_a1, F_west_a1, F_south_a1, F_east_a1, F_north_a1, F_intervals_a1, A_b79b144, E_b79b144, A_b79b150, E_b79b150, A_b79b164, E_b79b164⟩
theorem ef_3_E (a1 : Addr) (kd2 : UInt64) (kd3 : UInt64) (kd4 : UInt64) (kd5 : UInt64) (m : MethodId) : entryFrame m #[(.ref a1), (.double kd2), (.double kd3), (.double kd4), (.double kd5)] 9 = mkF m 0 #[.val (.ref a1), .val (.double kd2), .second, .val (.double kd3), .second, .val (.double kd4), .second, .val (.double kd5), .second] [] := by first | (simp [entryFrame, mkF, argsToLocals, Value.category]; done) | rfl
def Q3_E (Z : State) (a1 : Addr) (kd2 : Nat) (kd3 : Nat) (kd4 : Nat) (kd5 : Nat) (w_west_a1 : Nat) (w_south_a1 : Nat) (w_east_a1 : Nat) (w_north_a1 : Nat) (w_intervals_a1 : Value) (h0 : Heap) (n0 : Nat) (v : Option Value) (h : Heap) (L : List Loc) : Prop := ∃ (b79b185 : Addr) (b79b191 : Addr), v = none ∧ Fr n0 L ∧ Keep h0 h [a1] ∧ h0.size ≤ b79b185 ∧ h0.size ≤ b79b191 ∧ Exa Z h a1 "com/example/kvadtree/kvadtree/Box" ∧ Fld Z h a1 "com/example/kvadtree/kvadtree/Box" "west" "D" (.double (own_h kd2)) ∧ Fld Z h a1 "com/example/kvadtree/kvadtree/Box" "south" "D" (.double (own_h kd3)) ∧ Fld Z h a1 "com/example/kvadtree/kvadtree/Box" "east" "D" (.double (own_h kd4)) ∧ Fld Z h a1 "com/example/kvadtree/kvadtree/Box" "north" "D" (.double (own_h kd5)) ∧ Fld Z h a1 "com/example/kvadtree/kvadtree/Box" "intervals" "[[D" (.ref b79b185) ∧ Afn Z h b79b185 (.array .double) 1 (upd (fun _ => .null) 0 (.ref b79b191)) ∧ Exa Z h b79b185 "[[D" ∧ Afn Z h b79b191 .double 2 (upd (upd (fun _ => (.double 0)) 0 (.double (own_h kd2))) 1 (.double (own_h kd4))) ∧ Exa Z h b79b191 "[D"
set_option maxRecDepth 65536 in
set_option maxHeartbeats 40000000 in
theorem rm3_E (l : Launch) (Z : State) (a0 : Array Value) (hw : ∀ d ∈ tables_1, d.before a0 Z = true) (a1 : Addr) (kd2 : Nat) (kd3 : Nat) (kd4 : Nat) (kd5 : Nat) (w_west_a1 : Nat) (w_south_a1 : Nat) (w_east_a1 : Nat) (w_north_a1 : Nat) (w_intervals_a1 : Value) (h0 : Heap) (n0 : Nat) (Zs : n0 ≤ h0.size) (b_kd2 : kd2 < 801) (b_kd3 : kd3 < 801) (b_kd4 : kd4 < 801) (b_kd5 : kd5 < 801) (hw1 : ¬ kd2 < 40) (hw2 : ¬ 760 < kd2) (hs1 : ¬ kd3 < 220) (hs2 : ¬ 580 < kd3) (he1 : ¬ kd4 < 40) (he2 : ¬ 760 < kd4) (hn1 : ¬ kd5 < 220) (hn2 : ¬ 580 < kd5) (hsn : ¬ kd5 < kd3) (iN : ¬ kd4 < kd2) (i1 : ¬ kd2 = 40) (i2 : ¬ kd4 = 760) (E_a1 : Exa Z h0 a1 "com/example/kvadtree/kvadtree/Box") (b_w_west_a1 : w_west_a1 < 801) (F_west_a1 : Fld Z h0 a1 "com/example/kvadtree/kvadtree/Box" "west" "D" (.double (own_h w_west_a1))) (b_w_south_a1 : w_south_a1 < 801) (F_south_a1 : Fld Z h0 a1 "com/example/kvadtree/kvadtree/Box" "south" "D" (.double (own_h w_south_a1))) (b_w_east_a1 : w_east_a1 < 801) (F_east_a1 : Fld Z h0 a1 "com/example/kvadtree/kvadtree/Box" "east" "D" (.double (own_h w_east_a1))) (b_w_north_a1 : w_north_a1 < 801) (F_north_a1 : Fld Z h0 a1 "com/example/kvadtree/kvadtree/Box" "north" "D" (.double (own_h w_north_a1))) (F_intervals_a1 : Fld Z h0 a1 "com/example/kvadtree/kvadtree/Box" "intervals" "[[D" w_intervals_a1) (g_a1 : n0 ≤ a1) :
    Met1W l Z (⟨"com/example/kvadtree/kvadtree/Box", "<init>", "(DDDD)V"⟩ : MethodName) prog_2_method_1_code 9 none ({ frames := 1, cells := 10, slots := 91, locals := 17 } : Room) #[(.ref a1), (.double (own_h kd2)), (.double (own_h kd3)), (.double (own_h kd4)), (.double (own_h kd5))] h0 (Q3_E Z a1 kd2 kd3 kd4 kd5 w_west_a1 w_south_a1 w_east_a1 w_north_a1 w_intervals_a1 h0 n0) := by
  refine own_met_ofW (plainFor_of_name pn_7) (ef_3_E a1 (own_h kd2) (own_h kd3) (own_h kd4) (own_h kd5)) ?_
  intro p e s m below meth c s₁ vm0 X hx hby hml hZ hown hnm hret hlk eT hS hs0
  have hown : (s.setVm vm0).vm.findClass "com/example/kvadtree/kvadtree/Box" = some m.cls := hown
  have hk : 0 ≤ h0.size := Nat.zero_le _
  have N := Fr.nil n0
  have K := Keep.refl h0 [a1]
  refine own_aloadN X hx hby (.ref a1) d3_0 rfl rfl 1 rfl ?_
  refine own_initO X hx hby hZ hown (hw _ (List.mem_of_getElem? (i := 14) rfl)) (hw _ (List.mem_of_getElem? (i := 15) rfl)) (hw _ (List.mem_of_getElem? (i := 16) rfl)) eT (by rw [hml]; rfl) d3_1 (by decide) 0 rfl (by decide) 4 rfl ?_
  intro T1 X eT
  refine own_ldcS X hx hby hZ hown (hw _ (List.mem_of_getElem? (i := 17) rfl)) (own_wS hw) eT hS hk d3_4 16 (by decide) (by decide) (by decide) (by decide) 6 rfl ?_
  intro T4 h4 lit4 vm4 k4 X eT Ex hS hk hZ hown
  have E_a1 := E_a1.ext Ex
  have F_west_a1 := F_west_a1.ext Ex
  have F_south_a1 := F_south_a1.ext Ex
  have F_east_a1 := F_east_a1.ext Ex
  have F_north_a1 := F_north_a1.ext Ex
  have F_intervals_a1 := F_intervals_a1.ext Ex
  have K := K.ext Ex
  have Zs := Nat.le_trans Zs Ex.1
  refine own_dloadN X hx hby (own_h kd2) d3_6 rfl 7 rfl ?_
  refine own_callS X hx hby hZ (st := []) [(.ref lit4), (.double (own_h kd2))] rfl hown (hw _ (List.mem_of_getElem? (i := 25) rfl)) (hw _ (List.mem_of_getElem? (i := 26) rfl)) (hw _ (List.mem_of_getElem? (i := 27) rfl)) (hw _ (List.mem_of_getElem? (i := 28) rfl)) (by decide) d3_7 (rm5 l Z a0 hw lit4 kd2 h4 n0 Zs b_kd2 hw1 hw2) eT pd_6 rfl (by rw [hml]; rfl) (by decide) 0 rfl (by decide) (by decide) (by decide) 10 rfl ?_
  intro T7 L9 v9 X hQ
  obtain ⟨rfl, N9, eT⟩ := hQ
  have N := Fr.app N N9
  show Go p e below _ T7 (mkF m 10 #[.val (.ref a1), .val (.double (own_h kd2)), .second, .val (.double (own_h kd3)), .second, .val (.double (own_h kd4)), .second, .val (.double (own_h kd5)), .second] [])
  refine own_ldcS X hx hby hZ hown (hw _ (List.mem_of_getElem? (i := 31) rfl)) (own_wS hw) eT hS hk d3_10 20 (by decide) (by decide) (by decide) (by decide) 12 rfl ?_
  intro T10 h10 lit10 vm10 k10 X eT Ex hS hk hZ hown
  have E_a1 := E_a1.ext Ex
  have F_west_a1 := F_west_a1.ext Ex
  have F_south_a1 := F_south_a1.ext Ex
  have F_east_a1 := F_east_a1.ext Ex
  have F_north_a1 := F_north_a1.ext Ex
  have F_intervals_a1 := F_intervals_a1.ext Ex
  have K := K.ext Ex
  have Zs := Nat.le_trans Zs Ex.1
  refine own_dloadN X hx hby (own_h kd3) d3_12 rfl 13 rfl ?_
  refine own_callS X hx hby hZ (st := []) [(.ref lit10), (.double (own_h kd3))] rfl hown (hw _ (List.mem_of_getElem? (i := 32) rfl)) (hw _ (List.mem_of_getElem? (i := 33) rfl)) (hw _ (List.mem_of_getElem? (i := 27) rfl)) (hw _ (List.mem_of_getElem? (i := 34) rfl)) (by decide) d3_13 (rm6 l Z a0 hw lit10 kd3 h10 n0 Zs b_kd3 hs1 hs2) eT pd_6 rfl (by rw [hml]; rfl) (by decide) 0 rfl (by decide) (by decide) (by decide) 16 rfl ?_
  intro T13 L9 v9 X hQ
  obtain ⟨rfl, N9, eT⟩ := hQ
  have N := Fr.app N N9
  show Go p e below _ T13 (mkF m 16 #[.val (.ref a1), .val (.double (own_h kd2)), .second, .val (.double (own_h kd3)), .second, .val (.double (own_h kd4)), .second, .val (.double (own_h kd5)), .second] [])
  refine own_ldcS X hx hby hZ hown (hw _ (List.mem_of_getElem? (i := 37) rfl)) (own_wS hw) eT hS hk d3_16 16 (by decide) (by decide) (by decide) (by decide) 18 rfl ?_
  intro T16 h16 lit16 vm16 k16 X eT Ex hS hk hZ hown
  have E_a1 := E_a1.ext Ex
  have F_west_a1 := F_west_a1.ext Ex
  have F_south_a1 := F_south_a1.ext Ex
  have F_east_a1 := F_east_a1.ext Ex
  have F_north_a1 := F_north_a1.ext Ex
  have F_intervals_a1 := F_intervals_a1.ext Ex
  have K := K.ext Ex
  have Zs := Nat.le_trans Zs Ex.1
  refine own_dload X hx hby (own_h kd4) d3_18 rfl 20 rfl ?_
  refine own_callS X hx hby hZ (st := []) [(.ref lit16), (.double (own_h kd4))] rfl hown (hw _ (List.mem_of_getElem? (i := 25) rfl)) (hw _ (List.mem_of_getElem? (i := 26) rfl)) (hw _ (List.mem_of_getElem? (i := 27) rfl)) (hw _ (List.mem_of_getElem? (i := 28) rfl)) (by decide) d3_20 (rm5 l Z a0 hw lit16 kd4 h16 n0 Zs b_kd4 he1 he2) eT pd_6 rfl (by rw [hml]; rfl) (by decide) 0 rfl (by decide) (by decide) (by decide) 23 rfl ?_
  intro T20 L9 v9 X hQ
  obtain ⟨rfl, N9, eT⟩ := hQ
  have N := Fr.app N N9
  show Go p e below _ T20 (mkF m 23 #[.val (.ref a1), .val (.double (own_h kd2)), .second, .val (.double (own_h kd3)), .second, .val (.double (own_h kd4)), .second, .val (.double (own_h kd5)), .second] [])
  refine own_ldcS X hx hby hZ hown (hw _ (List.mem_of_getElem? (i := 38) rfl)) (own_wS hw) eT hS hk d3_23 20 (by decide) (by decide) (by decide) (by decide) 25 rfl ?_
  intro T23 h23 lit23 vm23 k23 X eT Ex hS hk hZ hown
  have E_a1 := E_a1.ext Ex
  have F_west_a1 := F_west_a1.ext Ex
  have F_south_a1 := F_south_a1.ext Ex
  have F_east_a1 := F_east_a1.ext Ex
  have F_north_a1 := F_north_a1.ext Ex
  have F_intervals_a1 := F_intervals_a1.ext Ex
  have K := K.ext Ex
  have Zs := Nat.le_trans Zs Ex.1
  refine own_dload X hx hby (own_h kd5) d3_25 rfl 27 rfl ?_
  refine own_callS X hx hby hZ (st := []) [(.ref lit23), (.double (own_h kd5))] rfl hown (hw _ (List.mem_of_getElem? (i := 32) rfl)) (hw _ (List.mem_of_getElem? (i := 33) rfl)) (hw _ (List.mem_of_getElem? (i := 27) rfl)) (hw _ (List.mem_of_getElem? (i := 34) rfl)) (by decide) d3_27 (rm6 l Z a0 hw lit23 kd5 h23 n0 Zs b_kd5 hn1 hn2) eT pd_6 rfl (by rw [hml]; rfl) (by decide) 0 rfl (by decide) (by decide) (by decide) 30 rfl ?_
  intro T27 L9 v9 X hQ
  obtain ⟨rfl, N9, eT⟩ := hQ
  have N := Fr.app N N9
  show Go p e below _ T27 (mkF m 30 #[.val (.ref a1), .val (.double (own_h kd2)), .second, .val (.double (own_h kd3)), .second, .val (.double (own_h kd4)), .second, .val (.double (own_h kd5)), .second] [])
  refine own_dloadN X hx hby (own_h kd3) d3_30 rfl 31 rfl ?_
  refine own_dload X hx hby (own_h kd5) d3_31 rfl 33 rfl ?_
  have c34 : ¬ kd5 < kd3 := hsn
  refine own_dcmp_le X hx hby b_kd3 b_kd5 d3_33 d3_34 53 37 (by decide) rfl (fun _ => ?_) (fun q => absurd q c34)
  refine own_aloadN X hx hby (.ref a1) d3_53 rfl rfl 54 rfl ?_
  refine own_dloadN X hx hby (own_h kd2) d3_54 rfl 55 rfl ?_
  refine own_putF X hx hby hZ hown (host := "") (Or.inl (hw _ (List.mem_of_getElem? (i := 39) rfl))) Via.refl eT F_west_a1 E_a1 (Or.inr ⟨(hw _ (List.mem_of_getElem? (i := 40) rfl)), rfl, hnm⟩) (hw _ (List.mem_of_getElem? (i := 9) rfl)) (ty := .double) (by decide) rfl rfl d3_55 58 rfl ?_
  intro T55 h55 X eT W
  have hk := Nat.le_trans hk (Keep.of_wr W).1
  have E_a1 := E_a1.wr W
  have F_west_a1 := F_west_a1.same W
  have F_south_a1 := F_south_a1.other W (Or.inr (slot_ne (Or.inr (hw _ (List.mem_of_getElem? (i := 42) rfl))) (Or.inr (hw _ (List.mem_of_getElem? (i := 40) rfl))) (by decide) (t := .double) (t' := .double) (by decide) (by decide)))
  have F_east_a1 := F_east_a1.other W (Or.inr (slot_ne (Or.inr (hw _ (List.mem_of_getElem? (i := 44) rfl))) (Or.inr (hw _ (List.mem_of_getElem? (i := 40) rfl))) (by decide) (t := .double) (t' := .double) (by decide) (by decide)))
  have F_north_a1 := F_north_a1.other W (Or.inr (slot_ne (Or.inr (hw _ (List.mem_of_getElem? (i := 46) rfl))) (Or.inr (hw _ (List.mem_of_getElem? (i := 40) rfl))) (by decide) (t := .double) (t' := .double) (by decide) (by decide)))
  have F_intervals_a1 := F_intervals_a1.other W (Or.inr (slot_ne (Or.inr (hw _ (List.mem_of_getElem? (i := 57) rfl))) (Or.inr (hw _ (List.mem_of_getElem? (i := 40) rfl))) (by decide) (t := (.array (.array .double))) (t' := .double) (by decide) (by decide)))
  have N := Fr.snoc X N g_a1
  have K := K.wr W (Or.inl (List.mem_of_getElem? (i := 0) rfl))
  have Zs := Nat.le_trans Zs (Keep.of_wr W).1
  refine own_aloadN X hx hby (.ref a1) d3_58 rfl rfl 59 rfl ?_
  refine own_dloadN X hx hby (own_h kd3) d3_59 rfl 60 rfl ?_
  refine own_putF X hx hby hZ hown (host := "") (Or.inl (hw _ (List.mem_of_getElem? (i := 41) rfl))) Via.refl eT F_south_a1 E_a1 (Or.inr ⟨(hw _ (List.mem_of_getElem? (i := 42) rfl)), rfl, hnm⟩) (hw _ (List.mem_of_getElem? (i := 9) rfl)) (ty := .double) (by decide) rfl rfl d3_60 63 rfl ?_
  intro T60 h60 X eT W
  have hk := Nat.le_trans hk (Keep.of_wr W).1
  have E_a1 := E_a1.wr W
  have F_west_a1 := F_west_a1.other W (Or.inr (slot_ne (Or.inr (hw _ (List.mem_of_getElem? (i := 40) rfl))) (Or.inr (hw _ (List.mem_of_getElem? (i := 42) rfl))) (by decide) (t := .double) (t' := .double) (by decide) (by decide)))
  have F_south_a1 := F_south_a1.same W
  have F_east_a1 := F_east_a1.other W (Or.inr (slot_ne (Or.inr (hw _ (List.mem_of_getElem? (i := 44) rfl))) (Or.inr (hw _ (List.mem_of_getElem? (i := 42) rfl))) (by decide) (t := .double) (t' := .double) (by decide) (by decide)))
  have F_north_a1 := F_north_a1.other W (Or.inr (slot_ne (Or.inr (hw _ (List.mem_of_getElem? (i := 46) rfl))) (Or.inr (hw _ (List.mem_of_getElem? (i := 42) rfl))) (by decide) (t := .double) (t' := .double) (by decide) (by decide)))
  have F_intervals_a1 := F_intervals_a1.other W (Or.inr (slot_ne (Or.inr (hw _ (List.mem_of_getElem? (i := 57) rfl))) (Or.inr (hw _ (List.mem_of_getElem? (i := 42) rfl))) (by decide) (t := (.array (.array .double))) (t' := .double) (by decide) (by decide)))
  have N := Fr.snoc X N g_a1
  have K := K.wr W (Or.inl (List.mem_of_getElem? (i := 0) rfl))
  have Zs := Nat.le_trans Zs (Keep.of_wr W).1
  refine own_aloadN X hx hby (.ref a1) d3_63 rfl rfl 64 rfl ?_
  refine own_dload X hx hby (own_h kd4) d3_64 rfl 66 rfl ?_
  refine own_putF X hx hby hZ hown (host := "") (Or.inl (hw _ (List.mem_of_getElem? (i := 43) rfl))) Via.refl eT F_east_a1 E_a1 (Or.inr ⟨(hw _ (List.mem_of_getElem? (i := 44) rfl)), rfl, hnm⟩) (hw _ (List.mem_of_getElem? (i := 9) rfl)) (ty := .double) (by decide) rfl rfl d3_66 69 rfl ?_
  intro T66 h66 X eT W
  have hk := Nat.le_trans hk (Keep.of_wr W).1
  have E_a1 := E_a1.wr W
  have F_west_a1 := F_west_a1.other W (Or.inr (slot_ne (Or.inr (hw _ (List.mem_of_getElem? (i := 40) rfl))) (Or.inr (hw _ (List.mem_of_getElem? (i := 44) rfl))) (by decide) (t := .double) (t' := .double) (by decide) (by decide)))
  have F_south_a1 := F_south_a1.other W (Or.inr (slot_ne (Or.inr (hw _ (List.mem_of_getElem? (i := 42) rfl))) (Or.inr (hw _ (List.mem_of_getElem? (i := 44) rfl))) (by decide) (t := .double) (t' := .double) (by decide) (by decide)))
  have F_east_a1 := F_east_a1.same W
  have F_north_a1 := F_north_a1.other W (Or.inr (slot_ne (Or.inr (hw _ (List.mem_of_getElem? (i := 46) rfl))) (Or.inr (hw _ (List.mem_of_getElem? (i := 44) rfl))) (by decide) (t := .double) (t' := .double) (by decide) (by decide)))
  have F_intervals_a1 := F_intervals_a1.other W (Or.inr (slot_ne (Or.inr (hw _ (List.mem_of_getElem? (i := 57) rfl))) (Or.inr (hw _ (List.mem_of_getElem? (i := 44) rfl))) (by decide) (t := (.array (.array .double))) (t' := .double) (by decide) (by decide)))
  have N := Fr.snoc X N g_a1
  have K := K.wr W (Or.inl (List.mem_of_getElem? (i := 0) rfl))
  have Zs := Nat.le_trans Zs (Keep.of_wr W).1
  refine own_aloadN X hx hby (.ref a1) d3_69 rfl rfl 70 rfl ?_
  refine own_dload X hx hby (own_h kd5) d3_70 rfl 72 rfl ?_
  refine own_putF X hx hby hZ hown (host := "") (Or.inl (hw _ (List.mem_of_getElem? (i := 45) rfl))) Via.refl eT F_north_a1 E_a1 (Or.inr ⟨(hw _ (List.mem_of_getElem? (i := 46) rfl)), rfl, hnm⟩) (hw _ (List.mem_of_getElem? (i := 9) rfl)) (ty := .double) (by decide) rfl rfl d3_72 75 rfl ?_
  intro T72 h72 X eT W
  have hk := Nat.le_trans hk (Keep.of_wr W).1
  have E_a1 := E_a1.wr W
  have F_west_a1 := F_west_a1.other W (Or.inr (slot_ne (Or.inr (hw _ (List.mem_of_getElem? (i := 40) rfl))) (Or.inr (hw _ (List.mem_of_getElem? (i := 46) rfl))) (by decide) (t := .double) (t' := .double) (by decide) (by decide)))
  have F_south_a1 := F_south_a1.other W (Or.inr (slot_ne (Or.inr (hw _ (List.mem_of_getElem? (i := 42) rfl))) (Or.inr (hw _ (List.mem_of_getElem? (i := 46) rfl))) (by decide) (t := .double) (t' := .double) (by decide) (by decide)))
  have F_east_a1 := F_east_a1.other W (Or.inr (slot_ne (Or.inr (hw _ (List.mem_of_getElem? (i := 44) rfl))) (Or.inr (hw _ (List.mem_of_getElem? (i := 46) rfl))) (by decide) (t := .double) (t' := .double) (by decide) (by decide)))
  have F_north_a1 := F_north_a1.same W
  have F_intervals_a1 := F_intervals_a1.other W (Or.inr (slot_ne (Or.inr (hw _ (List.mem_of_getElem? (i := 57) rfl))) (Or.inr (hw _ (List.mem_of_getElem? (i := 46) rfl))) (by decide) (t := (.array (.array .double))) (t' := .double) (by decide) (by decide)))
  have N := Fr.snoc X N g_a1
  have K := K.wr W (Or.inl (List.mem_of_getElem? (i := 0) rfl))
  have Zs := Nat.le_trans Zs (Keep.of_wr W).1
  refine own_aloadN X hx hby (.ref a1) d3_75 rfl rfl 76 rfl ?_
  refine own_dloadN X hx hby (own_h kd2) d3_76 rfl 77 rfl ?_
  refine own_dload X hx hby (own_h kd4) d3_77 rfl 79 rfl ?_
  refine own_callS X hx hby hZ (st := [(.ref a1)]) [(.double (own_h kd2)), (.double (own_h kd4))] rfl hown (hw _ (List.mem_of_getElem? (i := 47) rfl)) (hw _ (List.mem_of_getElem? (i := 48) rfl)) (hw _ (List.mem_of_getElem? (i := 10) rfl)) (hw _ (List.mem_of_getElem? (i := 49) rfl)) (by decide) d3_79 (rm7_E l Z a0 hw kd2 kd4 h72 n0 Zs b_kd2 b_kd4 iN i1 i2) eT pd_2 rfl (by rw [hml]; rfl) (by decide) 1 rfl (by decide) (by decide) (by decide) 82 rfl ?_
  intro T79 L9 v9 X hQ
  obtain ⟨h79, eT⟩ : ∃ z, T79.heap = z := ⟨_, rfl⟩
  rw [eT] at hQ
  have lt_a1 := E_a1.lt
  obtain ⟨b79b185, b79b191, rfl, N9, Kc, hs_b79b185, hs_b79b191, A_b79b185, E_b79b185, A_b79b191, E_b79b191⟩ := hQ
  have g_b79b185 : n0 ≤ b79b185 := Nat.le_trans Zs hs_b79b185
  have sz_b79b185 : h0.size ≤ b79b185 := Nat.le_trans K.1 hs_b79b185
  have ne_a1_b79b185 : a1 ≠ b79b185 := Nat.ne_of_lt (Nat.lt_of_lt_of_le lt_a1 hs_b79b185)
  have g_b79b191 : n0 ≤ b79b191 := Nat.le_trans Zs hs_b79b191
  have sz_b79b191 : h0.size ≤ b79b191 := Nat.le_trans K.1 hs_b79b191
  have ne_a1_b79b191 : a1 ≠ b79b191 := Nat.ne_of_lt (Nat.lt_of_lt_of_le lt_a1 hs_b79b191)
  have hk := Nat.le_trans hk Kc.1
  have E_a1 := E_a1.keep Kc
  have F_west_a1 := F_west_a1.keep Kc nin0
  have F_south_a1 := F_south_a1.keep Kc nin0
  have F_east_a1 := F_east_a1.keep Kc nin0
  have F_north_a1 := F_north_a1.keep Kc nin0
  have F_intervals_a1 := F_intervals_a1.keep Kc nin0
  have K := K.trans Kc all0
  have Zs := Nat.le_trans Zs Kc.1
  have N := Fr.app N N9
  show Go p e below _ T79 (mkF m 82 #[.val (.ref a1), .val (.double (own_h kd2)), .second, .val (.double (own_h kd3)), .second, .val (.double (own_h kd4)), .second, .val (.double (own_h kd5)), .second] [(.ref b79b185), (.ref a1)])
  refine own_putF X hx hby hZ hown (host := "") (Or.inl (hw _ (List.mem_of_getElem? (i := 56) rfl))) Via.refl eT F_intervals_a1 E_a1 (Or.inr ⟨(hw _ (List.mem_of_getElem? (i := 57) rfl)), rfl, hnm⟩) (hw _ (List.mem_of_getElem? (i := 9) rfl)) (ty := (.array (.array .double))) (by decide) rfl rfl d3_82 85 rfl ?_
  intro T82 h82 X eT W
  have hk := Nat.le_trans hk (Keep.of_wr W).1
  have E_a1 := E_a1.wr W
  have F_west_a1 := F_west_a1.other W (Or.inr (slot_ne (Or.inr (hw _ (List.mem_of_getElem? (i := 40) rfl))) (Or.inr (hw _ (List.mem_of_getElem? (i := 57) rfl))) (by decide) (t := .double) (t' := (.array (.array .double))) (by decide) (by decide)))
  have F_south_a1 := F_south_a1.other W (Or.inr (slot_ne (Or.inr (hw _ (List.mem_of_getElem? (i := 42) rfl))) (Or.inr (hw _ (List.mem_of_getElem? (i := 57) rfl))) (by decide) (t := .double) (t' := (.array (.array .double))) (by decide) (by decide)))
  have F_east_a1 := F_east_a1.other W (Or.inr (slot_ne (Or.inr (hw _ (List.mem_of_getElem? (i := 44) rfl))) (Or.inr (hw _ (List.mem_of_getElem? (i := 57) rfl))) (by decide) (t := .double) (t' := (.array (.array .double))) (by decide) (by decide)))
  have F_north_a1 := F_north_a1.other W (Or.inr (slot_ne (Or.inr (hw _ (List.mem_of_getElem? (i := 46) rfl))) (Or.inr (hw _ (List.mem_of_getElem? (i := 57) rfl))) (by decide) (t := .double) (t' := (.array (.array .double))) (by decide) (by decide)))
  have F_intervals_a1 := F_intervals_a1.same W
  have A_b79b185 := A_b79b185.other W (Ne.symm ne_a1_b79b185)
  have E_b79b185 := E_b79b185.wr W
  have A_b79b191 := A_b79b191.other W (Ne.symm ne_a1_b79b191)
  have E_b79b191 := E_b79b191.wr W
  have N := Fr.snoc X N g_a1
  have K := K.wr W (Or.inl (List.mem_of_getElem? (i := 0) rfl))
  have Zs := Nat.le_trans Zs (Keep.of_wr W).1
  refine own_retW X hx hby hS (by rw [eT]; exact hk) hret hlk d3_85 (by decide) (by decide) ?_
  rw [eT]
  exact ⟨b79b185, b79b191, rfl, N, K, sz_b79b185, sz_b79b191, E_a1, F_west_a1, F_south_a1, F_east_a1, F_north_a1, F_intervals_a1, A_b79b185, E_b79b185, A_b79b191, E_b79b191⟩
theorem ef_8_1 (a1 : Addr) (kd2 : UInt64) (kd3 : UInt64) (m : MethodId) : entryFrame m #[(.ref a1), (.double kd2), (.double kd3)] 9 = mkF m 0 #[.val (.ref a1), .val (.double kd2), .second, .val (.double kd3), .second, .unset, .unset, .unset, .unset] [] := by first | (simp [entryFrame, mkF, argsToLocals, Value.category]; done) | rfl
def f8_1 (kd2 : Nat) (kd3 : Nat) (x0 : Nat) (x1 : Nat) (w_south_a1 : Nat) (w_north_a1 : Nat) : Int32 := (if kd3 < w_south_a1 then (0 : Int32) else (if w_north_a1 < kd3 then (0 : Int32) else (if kd2 < x0 then (0 : Int32) else (if x1 < kd2 then (0 : Int32) else (1 : Int32)))))
def Q8_1 (Z : State) (a1 : Addr) (kd2 : Nat) (kd3 : Nat) (r2 : Addr) (x0 : Nat) (x1 : Nat) (w_south_a1 : Nat) (w_north_a1 : Nat) (r1 : Addr) (h0 : Heap) (n0 : Nat) (v : Option Value) (h : Heap) (L : List Loc) : Prop := v = some (.int (f8_1 kd2 kd3 x0 x1 w_south_a1 w_north_a1)) ∧ Fr n0 L ∧ h = h0
set_option maxRecDepth 65536 in
set_option maxHeartbeats 40000000 in
theorem rm8_1 (l : Launch) (Z : State) (a0 : Array Value) (hw : ∀ d ∈ tables_1, d.before a0 Z = true) (a1 : Addr) (kd2 : Nat) (kd3 : Nat) (r2 : Addr) (x0 : Nat) (x1 : Nat) (w_south_a1 : Nat) (w_north_a1 : Nat) (r1 : Addr) (h0 : Heap) (n0 : Nat) (Zs : n0 ≤ h0.size) (b_kd2 : kd2 < 801) (b_kd3 : kd3 < 801) (A_r1 : Afn Z h0 r1 (.array .double) 1 (upd (fun _ => .null) 0 (.ref r2))) (A_r2 : Afn Z h0 r2 .double 2 (upd (upd (fun _ => (.double 0)) 0 (.double (own_h x0))) 1 (.double (own_h x1)))) (b_x0 : x0 < 801) (b_x1 : x1 < 801) (E_a1 : Exa Z h0 a1 "com/example/kvadtree/kvadtree/Box") (b_w_south_a1 : w_south_a1 < 801) (F_south_a1 : Fld Z h0 a1 "com/example/kvadtree/kvadtree/Box" "south" "D" (.double (own_h w_south_a1))) (b_w_north_a1 : w_north_a1 < 801) (F_north_a1 : Fld Z h0 a1 "com/example/kvadtree/kvadtree/Box" "north" "D" (.double (own_h w_north_a1))) (F_intervals_a1 : Fld Z h0 a1 "com/example/kvadtree/kvadtree/Box" "intervals" "[[D" (.ref r1)) :
    Met1 l Z (⟨"com/example/kvadtree/kvadtree/Box", "contains", "(DD)Z"⟩ : MethodName) prog_2_method_8_code 9 (some .boolean) ({ frames := 0, cells := 0, slots := 0, locals := 0 } : Room) #[(.ref a1), (.double (own_h kd2)), (.double (own_h kd3))] h0 (Q8_1 Z a1 kd2 kd3 r2 x0 x1 w_south_a1 w_north_a1 r1 h0 n0) := by
  refine own_met_of (plainFor_of_name pn_7) (ef_8_1 a1 (own_h kd2) (own_h kd3)) ?_
  intro p e s m below meth c s₁ X hx hby hml hZ hown hnm hret hlk eT
  have hown : s.vm.findClass "com/example/kvadtree/kvadtree/Box" = some m.cls := hown
  have N := Fr.nil n0
  refine own_dloadN X hx hby (own_h kd3) d8_0 rfl 1 rfl ?_
  refine own_aloadN X hx hby (.ref a1) d8_1 rfl rfl 2 rfl ?_
  refine own_getF X hx hby hZ hown (host := "") (Or.inl (hw _ (List.mem_of_getElem? (i := 41) rfl))) Via.refl eT F_south_a1 d8_2 5 rfl ?_
  intro T2 X eT
  refine own_dcmp_lt X hx hby b_kd3 b_w_south_a1 d8_5 d8_6 18 9 (by decide) rfl (fun c6 => ?_) (fun c6 => ?_)
  · skip
    refine own_iconst X hx hby (0 : Int32) d8_18 rfl 19 rfl ?_
    refine own_retN X hx hby hret hlk (t := .boolean) (z' := (0 : Int32)) (by simp) d8_19 (by decide) (by decide) rfl ?_
    rw [eT]
    exact ⟨congrArg (fun z => some (Value.int z)) (by unfold f8_1; rw [if_pos c6]), N, rfl⟩
  · skip
    refine own_dloadN X hx hby (own_h kd3) d8_9 rfl 10 rfl ?_
    refine own_aloadN X hx hby (.ref a1) d8_10 rfl rfl 11 rfl ?_
    refine own_getF X hx hby hZ hown (host := "") (Or.inl (hw _ (List.mem_of_getElem? (i := 45) rfl))) Via.refl eT F_north_a1 d8_11 14 rfl ?_
    intro T11 X eT
    refine own_dcmp_le X hx hby b_kd3 b_w_north_a1 d8_14 d8_15 20 18 (by decide) rfl (fun c15 => ?_) (fun c15 => ?_)
    · skip
      refine own_aloadN X hx hby (.ref a1) d8_20 rfl rfl 21 rfl ?_
      refine own_getF X hx hby hZ hown (host := "") (Or.inl (hw _ (List.mem_of_getElem? (i := 56) rfl))) Via.refl eT F_intervals_a1 d8_21 24 rfl ?_
      intro T21 X eT
      refine own_astore X hx hby d8_24 rfl (l' := #[.val (.ref a1), .val (.double (own_h kd2)), .second, .val (.double (own_h kd3)), .second, .val (.ref r1), .unset, .unset, .unset]) rfl 26 rfl ?_
      refine own_aload X hx hby (.ref r1) d8_26 rfl rfl 28 rfl ?_
      refine own_arraylength X hx hby hZ (1 : Int32) eT A_r1 rfl d8_28 29 rfl ?_
      refine own_istore X hx hby d8_29 rfl (l' := #[.val (.ref a1), .val (.double (own_h kd2)), .second, .val (.double (own_h kd3)), .second, .val (.ref r1), .val (.int (1 : Int32)), .unset, .unset]) rfl 31 rfl ?_
      refine own_iconst X hx hby (0 : Int32) d8_31 rfl 32 rfl ?_
      refine own_istore X hx hby d8_32 rfl (l' := #[.val (.ref a1), .val (.double (own_h kd2)), .second, .val (.double (own_h kd3)), .second, .val (.ref r1), .val (.int (1 : Int32)), .val (.int (0 : Int32)), .unset]) rfl 34 rfl ?_
      refine own_iload X hx hby (0 : Int32) d8_34 rfl 36 rfl ?_
      refine own_iload X hx hby (1 : Int32) d8_36 rfl 38 rfl ?_
      have c38 : (0 : Int32) < (1 : Int32) := by decide
      refine own_icmp_ge X hx hby d8_38 74 41 (by decide) rfl (fun q => absurd c38 q) (fun _ => ?_)
      refine own_aload X hx hby (.ref r1) d8_41 rfl rfl 43 rfl ?_
      refine own_iload X hx hby (0 : Int32) d8_43 rfl 45 rfl ?_
      refine own_aaload X hx hby hZ (.ref r2) eT A_r1 rfl (by decide) rfl d8_45 46 rfl ?_
      refine own_astore X hx hby d8_46 rfl (l' := #[.val (.ref a1), .val (.double (own_h kd2)), .second, .val (.double (own_h kd3)), .second, .val (.ref r1), .val (.int (1 : Int32)), .val (.int (0 : Int32)), .val (.ref r2)]) rfl 48 rfl ?_
      refine own_dloadN X hx hby (own_h kd2) d8_48 rfl 49 rfl ?_
      refine own_aload X hx hby (.ref r2) d8_49 rfl rfl 51 rfl ?_
      refine own_iconst X hx hby (0 : Int32) d8_51 rfl 52 rfl ?_
      refine own_daload X hx hby hZ (.double (own_h x0)) eT A_r2 (by decide) rfl d8_52 53 rfl ?_
      refine own_dcmp_lt X hx hby b_kd2 b_x0 d8_53 d8_54 68 57 (by decide) rfl (fun c54 => ?_) (fun c54 => ?_)
      · skip
        refine own_iinc X hx hby d8_68 (x := (0 : Int32)) rfl (by decide) (l' := #[.val (.ref a1), .val (.double (own_h kd2)), .second, .val (.double (own_h kd3)), .second, .val (.ref r1), .val (.int (1 : Int32)), .val (.int (1 : Int32)), .val (.ref r2)]) rfl 71 rfl ?_
        refine own_goto X hx hby d8_71 34 (by decide) ?_
        refine own_iload X hx hby (1 : Int32) d8_34 rfl 36 rfl ?_
        refine own_iload X hx hby (1 : Int32) d8_36 rfl 38 rfl ?_
        have c38_2 : ¬ (1 : Int32) < (1 : Int32) := by decide
        refine own_icmp_ge X hx hby d8_38 74 41 (by decide) rfl (fun _ => ?_) (fun q => absurd q c38_2)
        refine own_iconst X hx hby (0 : Int32) d8_74 rfl 75 rfl ?_
        refine own_retN X hx hby hret hlk (t := .boolean) (z' := (0 : Int32)) (by simp) d8_75 (by decide) (by decide) rfl ?_
        rw [eT]
        exact ⟨congrArg (fun z => some (Value.int z)) (by unfold f8_1; rw [if_neg c6, if_neg c15, if_pos c54]), N, rfl⟩
      · skip
        refine own_dloadN X hx hby (own_h kd2) d8_57 rfl 58 rfl ?_
        refine own_aload X hx hby (.ref r2) d8_58 rfl rfl 60 rfl ?_
        refine own_iconst X hx hby (1 : Int32) d8_60 rfl 61 rfl ?_
        refine own_daload X hx hby hZ (.double (own_h x1)) eT A_r2 (by decide) rfl d8_61 62 rfl ?_
        refine own_dcmp_gt X hx hby b_kd2 b_x1 d8_62 d8_63 68 66 (by decide) rfl (fun c63 => ?_) (fun c63 => ?_)
        · skip
          refine own_iinc X hx hby d8_68 (x := (0 : Int32)) rfl (by decide) (l' := #[.val (.ref a1), .val (.double (own_h kd2)), .second, .val (.double (own_h kd3)), .second, .val (.ref r1), .val (.int (1 : Int32)), .val (.int (1 : Int32)), .val (.ref r2)]) rfl 71 rfl ?_
          refine own_goto X hx hby d8_71 34 (by decide) ?_
          refine own_iload X hx hby (1 : Int32) d8_34 rfl 36 rfl ?_
          refine own_iload X hx hby (1 : Int32) d8_36 rfl 38 rfl ?_
          have c38_2 : ¬ (1 : Int32) < (1 : Int32) := by decide
          refine own_icmp_ge X hx hby d8_38 74 41 (by decide) rfl (fun _ => ?_) (fun q => absurd q c38_2)
          refine own_iconst X hx hby (0 : Int32) d8_74 rfl 75 rfl ?_
          refine own_retN X hx hby hret hlk (t := .boolean) (z' := (0 : Int32)) (by simp) d8_75 (by decide) (by decide) rfl ?_
          rw [eT]
          exact ⟨congrArg (fun z => some (Value.int z)) (by unfold f8_1; rw [if_neg c6, if_neg c15, if_neg c54, if_pos c63]), N, rfl⟩
        · skip
          refine own_iconst X hx hby (1 : Int32) d8_66 rfl 67 rfl ?_
          refine own_retN X hx hby hret hlk (t := .boolean) (z' := (1 : Int32)) (by simp) d8_67 (by decide) (by decide) rfl ?_
          rw [eT]
          exact ⟨congrArg (fun z => some (Value.int z)) (by unfold f8_1; rw [if_neg c6, if_neg c15, if_neg c54, if_neg c63]), N, rfl⟩
    · skip
      refine own_iconst X hx hby (0 : Int32) d8_18 rfl 19 rfl ?_
      refine own_retN X hx hby hret hlk (t := .boolean) (z' := (0 : Int32)) (by simp) d8_19 (by decide) (by decide) rfl ?_
      rw [eT]
      exact ⟨congrArg (fun z => some (Value.int z)) (by unfold f8_1; rw [if_neg c6, if_pos c15]), N, rfl⟩
theorem ef_8_2 (a1 : Addr) (kd2 : UInt64) (kd3 : UInt64) (m : MethodId) : entryFrame m #[(.ref a1), (.double kd2), (.double kd3)] 9 = mkF m 0 #[.val (.ref a1), .val (.double kd2), .second, .val (.double kd3), .second, .unset, .unset, .unset, .unset] [] := by first | (simp [entryFrame, mkF, argsToLocals, Value.category]; done) | rfl
def f8_2 (kd2 : Nat) (kd3 : Nat) (x0 : Nat) (x1 : Nat) (y0 : Nat) (y1 : Nat) (w_south_a1 : Nat) (w_north_a1 : Nat) : Int32 := (if kd3 < w_south_a1 then (0 : Int32) else (if w_north_a1 < kd3 then (0 : Int32) else (if kd2 < x0 then (if kd2 < y0 then (0 : Int32) else (if y1 < kd2 then (0 : Int32) else (1 : Int32))) else (if x1 < kd2 then (if kd2 < y0 then (0 : Int32) else (if y1 < kd2 then (0 : Int32) else (1 : Int32))) else (1 : Int32)))))
def Q8_2 (Z : State) (a1 : Addr) (kd2 : Nat) (kd3 : Nat) (r2 : Addr) (x0 : Nat) (x1 : Nat) (r3 : Addr) (y0 : Nat) (y1 : Nat) (w_south_a1 : Nat) (w_north_a1 : Nat) (r1 : Addr) (h0 : Heap) (n0 : Nat) (v : Option Value) (h : Heap) (L : List Loc) : Prop := v = some (.int (f8_2 kd2 kd3 x0 x1 y0 y1 w_south_a1 w_north_a1)) ∧ Fr n0 L ∧ h = h0
set_option maxRecDepth 65536 in
set_option maxHeartbeats 40000000 in
theorem rm8_2 (l : Launch) (Z : State) (a0 : Array Value) (hw : ∀ d ∈ tables_1, d.before a0 Z = true) (a1 : Addr) (kd2 : Nat) (kd3 : Nat) (r2 : Addr) (x0 : Nat) (x1 : Nat) (r3 : Addr) (y0 : Nat) (y1 : Nat) (w_south_a1 : Nat) (w_north_a1 : Nat) (r1 : Addr) (h0 : Heap) (n0 : Nat) (Zs : n0 ≤ h0.size) (b_kd2 : kd2 < 801) (b_kd3 : kd3 < 801) (A_r1 : Afn Z h0 r1 (.array .double) 2 (upd (upd (fun _ => .null) 0 (.ref r2)) 1 (.ref r3))) (A_r2 : Afn Z h0 r2 .double 2 (upd (upd (fun _ => (.double 0)) 0 (.double (own_h x0))) 1 (.double (own_h x1)))) (b_x0 : x0 < 801) (b_x1 : x1 < 801) (A_r3 : Afn Z h0 r3 .double 2 (upd (upd (fun _ => (.double 0)) 0 (.double (own_h y0))) 1 (.double (own_h y1)))) (b_y0 : y0 < 801) (b_y1 : y1 < 801) (E_a1 : Exa Z h0 a1 "com/example/kvadtree/kvadtree/Box") (b_w_south_a1 : w_south_a1 < 801) (F_south_a1 : Fld Z h0 a1 "com/example/kvadtree/kvadtree/Box" "south" "D" (.double (own_h w_south_a1))) (b_w_north_a1 : w_north_a1 < 801) (F_north_a1 : Fld Z h0 a1 "com/example/kvadtree/kvadtree/Box" "north" "D" (.double (own_h w_north_a1))) (F_intervals_a1 : Fld Z h0 a1 "com/example/kvadtree/kvadtree/Box" "intervals" "[[D" (.ref r1)) :
    Met1 l Z (⟨"com/example/kvadtree/kvadtree/Box", "contains", "(DD)Z"⟩ : MethodName) prog_2_method_8_code 9 (some .boolean) ({ frames := 0, cells := 0, slots := 0, locals := 0 } : Room) #[(.ref a1), (.double (own_h kd2)), (.double (own_h kd3))] h0 (Q8_2 Z a1 kd2 kd3 r2 x0 x1 r3 y0 y1 w_south_a1 w_north_a1 r1 h0 n0) := by
  refine own_met_of (plainFor_of_name pn_7) (ef_8_2 a1 (own_h kd2) (own_h kd3)) ?_
  intro p e s m below meth c s₁ X hx hby hml hZ hown hnm hret hlk eT
  have hown : s.vm.findClass "com/example/kvadtree/kvadtree/Box" = some m.cls := hown
  have N := Fr.nil n0
  refine own_dloadN X hx hby (own_h kd3) d8_0 rfl 1 rfl ?_
  refine own_aloadN X hx hby (.ref a1) d8_1 rfl rfl 2 rfl ?_
  refine own_getF X hx hby hZ hown (host := "") (Or.inl (hw _ (List.mem_of_getElem? (i := 41) rfl))) Via.refl eT F_south_a1 d8_2 5 rfl ?_
  intro T2 X eT
  refine own_dcmp_lt X hx hby b_kd3 b_w_south_a1 d8_5 d8_6 18 9 (by decide) rfl (fun c6 => ?_) (fun c6 => ?_)
  · skip
    refine own_iconst X hx hby (0 : Int32) d8_18 rfl 19 rfl ?_
    refine own_retN X hx hby hret hlk (t := .boolean) (z' := (0 : Int32)) (by simp) d8_19 (by decide) (by decide) rfl ?_
    rw [eT]
    exact ⟨congrArg (fun z => some (Value.int z)) (by unfold f8_2; rw [if_pos c6]), N, rfl⟩
  · skip
    refine own_dloadN X hx hby (own_h kd3) d8_9 rfl 10 rfl ?_
    refine own_aloadN X hx hby (.ref a1) d8_10 rfl rfl 11 rfl ?_
    refine own_getF X hx hby hZ hown (host := "") (Or.inl (hw _ (List.mem_of_getElem? (i := 45) rfl))) Via.refl eT F_north_a1 d8_11 14 rfl ?_
    intro T11 X eT
    refine own_dcmp_le X hx hby b_kd3 b_w_north_a1 d8_14 d8_15 20 18 (by decide) rfl (fun c15 => ?_) (fun c15 => ?_)
    · skip
      refine own_aloadN X hx hby (.ref a1) d8_20 rfl rfl 21 rfl ?_
      refine own_getF X hx hby hZ hown (host := "") (Or.inl (hw _ (List.mem_of_getElem? (i := 56) rfl))) Via.refl eT F_intervals_a1 d8_21 24 rfl ?_
      intro T21 X eT
      refine own_astore X hx hby d8_24 rfl (l' := #[.val (.ref a1), .val (.double (own_h kd2)), .second, .val (.double (own_h kd3)), .second, .val (.ref r1), .unset, .unset, .unset]) rfl 26 rfl ?_
      refine own_aload X hx hby (.ref r1) d8_26 rfl rfl 28 rfl ?_
      refine own_arraylength X hx hby hZ (2 : Int32) eT A_r1 rfl d8_28 29 rfl ?_
      refine own_istore X hx hby d8_29 rfl (l' := #[.val (.ref a1), .val (.double (own_h kd2)), .second, .val (.double (own_h kd3)), .second, .val (.ref r1), .val (.int (2 : Int32)), .unset, .unset]) rfl 31 rfl ?_
      refine own_iconst X hx hby (0 : Int32) d8_31 rfl 32 rfl ?_
      refine own_istore X hx hby d8_32 rfl (l' := #[.val (.ref a1), .val (.double (own_h kd2)), .second, .val (.double (own_h kd3)), .second, .val (.ref r1), .val (.int (2 : Int32)), .val (.int (0 : Int32)), .unset]) rfl 34 rfl ?_
      refine own_iload X hx hby (0 : Int32) d8_34 rfl 36 rfl ?_
      refine own_iload X hx hby (2 : Int32) d8_36 rfl 38 rfl ?_
      have c38 : (0 : Int32) < (2 : Int32) := by decide
      refine own_icmp_ge X hx hby d8_38 74 41 (by decide) rfl (fun q => absurd c38 q) (fun _ => ?_)
      refine own_aload X hx hby (.ref r1) d8_41 rfl rfl 43 rfl ?_
      refine own_iload X hx hby (0 : Int32) d8_43 rfl 45 rfl ?_
      refine own_aaload X hx hby hZ (.ref r2) eT A_r1 rfl (by decide) rfl d8_45 46 rfl ?_
      refine own_astore X hx hby d8_46 rfl (l' := #[.val (.ref a1), .val (.double (own_h kd2)), .second, .val (.double (own_h kd3)), .second, .val (.ref r1), .val (.int (2 : Int32)), .val (.int (0 : Int32)), .val (.ref r2)]) rfl 48 rfl ?_
      refine own_dloadN X hx hby (own_h kd2) d8_48 rfl 49 rfl ?_
      refine own_aload X hx hby (.ref r2) d8_49 rfl rfl 51 rfl ?_
      refine own_iconst X hx hby (0 : Int32) d8_51 rfl 52 rfl ?_
      refine own_daload X hx hby hZ (.double (own_h x0)) eT A_r2 (by decide) rfl d8_52 53 rfl ?_
      refine own_dcmp_lt X hx hby b_kd2 b_x0 d8_53 d8_54 68 57 (by decide) rfl (fun c54 => ?_) (fun c54 => ?_)
      · skip
        refine own_iinc X hx hby d8_68 (x := (0 : Int32)) rfl (by decide) (l' := #[.val (.ref a1), .val (.double (own_h kd2)), .second, .val (.double (own_h kd3)), .second, .val (.ref r1), .val (.int (2 : Int32)), .val (.int (1 : Int32)), .val (.ref r2)]) rfl 71 rfl ?_
        refine own_goto X hx hby d8_71 34 (by decide) ?_
        refine own_iload X hx hby (1 : Int32) d8_34 rfl 36 rfl ?_
        refine own_iload X hx hby (2 : Int32) d8_36 rfl 38 rfl ?_
        have c38_2 : (1 : Int32) < (2 : Int32) := by decide
        refine own_icmp_ge X hx hby d8_38 74 41 (by decide) rfl (fun q => absurd c38_2 q) (fun _ => ?_)
        refine own_aload X hx hby (.ref r1) d8_41 rfl rfl 43 rfl ?_
        refine own_iload X hx hby (1 : Int32) d8_43 rfl 45 rfl ?_
        refine own_aaload X hx hby hZ (.ref r3) eT A_r1 rfl (by decide) rfl d8_45 46 rfl ?_
        refine own_astore X hx hby d8_46 rfl (l' := #[.val (.ref a1), .val (.double (own_h kd2)), .second, .val (.double (own_h kd3)), .second, .val (.ref r1), .val (.int (2 : Int32)), .val (.int (1 : Int32)), .val (.ref r3)]) rfl 48 rfl ?_
        refine own_dloadN X hx hby (own_h kd2) d8_48 rfl 49 rfl ?_
        refine own_aload X hx hby (.ref r3) d8_49 rfl rfl 51 rfl ?_
        refine own_iconst X hx hby (0 : Int32) d8_51 rfl 52 rfl ?_
        refine own_daload X hx hby hZ (.double (own_h y0)) eT A_r3 (by decide) rfl d8_52 53 rfl ?_
        refine own_dcmp_lt X hx hby b_kd2 b_y0 d8_53 d8_54 68 57 (by decide) rfl (fun c54_2 => ?_) (fun c54_2 => ?_)
        · skip
          refine own_iinc X hx hby d8_68 (x := (1 : Int32)) rfl (by decide) (l' := #[.val (.ref a1), .val (.double (own_h kd2)), .second, .val (.double (own_h kd3)), .second, .val (.ref r1), .val (.int (2 : Int32)), .val (.int (2 : Int32)), .val (.ref r3)]) rfl 71 rfl ?_
          refine own_goto X hx hby d8_71 34 (by decide) ?_
          refine own_iload X hx hby (2 : Int32) d8_34 rfl 36 rfl ?_
          refine own_iload X hx hby (2 : Int32) d8_36 rfl 38 rfl ?_
          have c38_3 : ¬ (2 : Int32) < (2 : Int32) := by decide
          refine own_icmp_ge X hx hby d8_38 74 41 (by decide) rfl (fun _ => ?_) (fun q => absurd q c38_3)
          refine own_iconst X hx hby (0 : Int32) d8_74 rfl 75 rfl ?_
          refine own_retN X hx hby hret hlk (t := .boolean) (z' := (0 : Int32)) (by simp) d8_75 (by decide) (by decide) rfl ?_
          rw [eT]
          exact ⟨congrArg (fun z => some (Value.int z)) (by unfold f8_2; rw [if_neg c6, if_neg c15, if_pos c54, if_pos c54_2]), N, rfl⟩
        · skip
          refine own_dloadN X hx hby (own_h kd2) d8_57 rfl 58 rfl ?_
          refine own_aload X hx hby (.ref r3) d8_58 rfl rfl 60 rfl ?_
          refine own_iconst X hx hby (1 : Int32) d8_60 rfl 61 rfl ?_
          refine own_daload X hx hby hZ (.double (own_h y1)) eT A_r3 (by decide) rfl d8_61 62 rfl ?_
          refine own_dcmp_gt X hx hby b_kd2 b_y1 d8_62 d8_63 68 66 (by decide) rfl (fun c63 => ?_) (fun c63 => ?_)
          · skip
            refine own_iinc X hx hby d8_68 (x := (1 : Int32)) rfl (by decide) (l' := #[.val (.ref a1), .val (.double (own_h kd2)), .second, .val (.double (own_h kd3)), .second, .val (.ref r1), .val (.int (2 : Int32)), .val (.int (2 : Int32)), .val (.ref r3)]) rfl 71 rfl ?_
            refine own_goto X hx hby d8_71 34 (by decide) ?_
            refine own_iload X hx hby (2 : Int32) d8_34 rfl 36 rfl ?_
            refine own_iload X hx hby (2 : Int32) d8_36 rfl 38 rfl ?_
            have c38_3 : ¬ (2 : Int32) < (2 : Int32) := by decide
            refine own_icmp_ge X hx hby d8_38 74 41 (by decide) rfl (fun _ => ?_) (fun q => absurd q c38_3)
            refine own_iconst X hx hby (0 : Int32) d8_74 rfl 75 rfl ?_
            refine own_retN X hx hby hret hlk (t := .boolean) (z' := (0 : Int32)) (by simp) d8_75 (by decide) (by decide) rfl ?_
            rw [eT]
            exact ⟨congrArg (fun z => some (Value.int z)) (by unfold f8_2; rw [if_neg c6, if_neg c15, if_pos c54, if_neg c54_2, if_pos c63]), N, rfl⟩
          · skip
            refine own_iconst X hx hby (1 : Int32) d8_66 rfl 67 rfl ?_
            refine own_retN X hx hby hret hlk (t := .boolean) (z' := (1 : Int32)) (by simp) d8_67 (by decide) (by decide) rfl ?_
            rw [eT]
            exact ⟨congrArg (fun z => some (Value.int z)) (by unfold f8_2; rw [if_neg c6, if_neg c15, if_pos c54, if_neg c54_2, if_neg c63]), N, rfl⟩
      · skip
        refine own_dloadN X hx hby (own_h kd2) d8_57 rfl 58 rfl ?_
        refine own_aload X hx hby (.ref r2) d8_58 rfl rfl 60 rfl ?_
        refine own_iconst X hx hby (1 : Int32) d8_60 rfl 61 rfl ?_
        refine own_daload X hx hby hZ (.double (own_h x1)) eT A_r2 (by decide) rfl d8_61 62 rfl ?_
        refine own_dcmp_gt X hx hby b_kd2 b_x1 d8_62 d8_63 68 66 (by decide) rfl (fun c63 => ?_) (fun c63 => ?_)
        · skip
          refine own_iinc X hx hby d8_68 (x := (0 : Int32)) rfl (by decide) (l' := #[.val (.ref a1), .val (.double (own_h kd2)), .second, .val (.double (own_h kd3)), .second, .val (.ref r1), .val (.int (2 : Int32)), .val (.int (1 : Int32)), .val (.ref r2)]) rfl 71 rfl ?_
          refine own_goto X hx hby d8_71 34 (by decide) ?_
          refine own_iload X hx hby (1 : Int32) d8_34 rfl 36 rfl ?_
          refine own_iload X hx hby (2 : Int32) d8_36 rfl 38 rfl ?_
          have c38_2 : (1 : Int32) < (2 : Int32) := by decide
          refine own_icmp_ge X hx hby d8_38 74 41 (by decide) rfl (fun q => absurd c38_2 q) (fun _ => ?_)
          refine own_aload X hx hby (.ref r1) d8_41 rfl rfl 43 rfl ?_
          refine own_iload X hx hby (1 : Int32) d8_43 rfl 45 rfl ?_
          refine own_aaload X hx hby hZ (.ref r3) eT A_r1 rfl (by decide) rfl d8_45 46 rfl ?_
          refine own_astore X hx hby d8_46 rfl (l' := #[.val (.ref a1), .val (.double (own_h kd2)), .second, .val (.double (own_h kd3)), .second, .val (.ref r1), .val (.int (2 : Int32)), .val (.int (1 : Int32)), .val (.ref r3)]) rfl 48 rfl ?_
          refine own_dloadN X hx hby (own_h kd2) d8_48 rfl 49 rfl ?_
          refine own_aload X hx hby (.ref r3) d8_49 rfl rfl 51 rfl ?_
          refine own_iconst X hx hby (0 : Int32) d8_51 rfl 52 rfl ?_
          refine own_daload X hx hby hZ (.double (own_h y0)) eT A_r3 (by decide) rfl d8_52 53 rfl ?_
          refine own_dcmp_lt X hx hby b_kd2 b_y0 d8_53 d8_54 68 57 (by decide) rfl (fun c54_2 => ?_) (fun c54_2 => ?_)
          · skip
            refine own_iinc X hx hby d8_68 (x := (1 : Int32)) rfl (by decide) (l' := #[.val (.ref a1), .val (.double (own_h kd2)), .second, .val (.double (own_h kd3)), .second, .val (.ref r1), .val (.int (2 : Int32)), .val (.int (2 : Int32)), .val (.ref r3)]) rfl 71 rfl ?_
            refine own_goto X hx hby d8_71 34 (by decide) ?_
            refine own_iload X hx hby (2 : Int32) d8_34 rfl 36 rfl ?_
            refine own_iload X hx hby (2 : Int32) d8_36 rfl 38 rfl ?_
            have c38_3 : ¬ (2 : Int32) < (2 : Int32) := by decide
            refine own_icmp_ge X hx hby d8_38 74 41 (by decide) rfl (fun _ => ?_) (fun q => absurd q c38_3)
            refine own_iconst X hx hby (0 : Int32) d8_74 rfl 75 rfl ?_
            refine own_retN X hx hby hret hlk (t := .boolean) (z' := (0 : Int32)) (by simp) d8_75 (by decide) (by decide) rfl ?_
            rw [eT]
            exact ⟨congrArg (fun z => some (Value.int z)) (by unfold f8_2; rw [if_neg c6, if_neg c15, if_neg c54, if_pos c63, if_pos c54_2]), N, rfl⟩
          · skip
            refine own_dloadN X hx hby (own_h kd2) d8_57 rfl 58 rfl ?_
            refine own_aload X hx hby (.ref r3) d8_58 rfl rfl 60 rfl ?_
            refine own_iconst X hx hby (1 : Int32) d8_60 rfl 61 rfl ?_
            refine own_daload X hx hby hZ (.double (own_h y1)) eT A_r3 (by decide) rfl d8_61 62 rfl ?_
            refine own_dcmp_gt X hx hby b_kd2 b_y1 d8_62 d8_63 68 66 (by decide) rfl (fun c63_2 => ?_) (fun c63_2 => ?_)
            · skip
              refine own_iinc X hx hby d8_68 (x := (1 : Int32)) rfl (by decide) (l' := #[.val (.ref a1), .val (.double (own_h kd2)), .second, .val (.double (own_h kd3)), .second, .val (.ref r1), .val (.int (2 : Int32)), .val (.int (2 : Int32)), .val (.ref r3)]) rfl 71 rfl ?_
              refine own_goto X hx hby d8_71 34 (by decide) ?_
              refine own_iload X hx hby (2 : Int32) d8_34 rfl 36 rfl ?_
              refine own_iload X hx hby (2 : Int32) d8_36 rfl 38 rfl ?_
              have c38_3 : ¬ (2 : Int32) < (2 : Int32) := by decide
              refine own_icmp_ge X hx hby d8_38 74 41 (by decide) rfl (fun _ => ?_) (fun q => absurd q c38_3)
              refine own_iconst X hx hby (0 : Int32) d8_74 rfl 75 rfl ?_
              refine own_retN X hx hby hret hlk (t := .boolean) (z' := (0 : Int32)) (by simp) d8_75 (by decide) (by decide) rfl ?_
              rw [eT]
              exact ⟨congrArg (fun z => some (Value.int z)) (by unfold f8_2; rw [if_neg c6, if_neg c15, if_neg c54, if_pos c63, if_neg c54_2, if_pos c63_2]), N, rfl⟩
            · skip
              refine own_iconst X hx hby (1 : Int32) d8_66 rfl 67 rfl ?_
              refine own_retN X hx hby hret hlk (t := .boolean) (z' := (1 : Int32)) (by simp) d8_67 (by decide) (by decide) rfl ?_
              rw [eT]
              exact ⟨congrArg (fun z => some (Value.int z)) (by unfold f8_2; rw [if_neg c6, if_neg c15, if_neg c54, if_pos c63, if_neg c54_2, if_neg c63_2]), N, rfl⟩
        · skip
          refine own_iconst X hx hby (1 : Int32) d8_66 rfl 67 rfl ?_
          refine own_retN X hx hby hret hlk (t := .boolean) (z' := (1 : Int32)) (by simp) d8_67 (by decide) (by decide) rfl ?_
          rw [eT]
          exact ⟨congrArg (fun z => some (Value.int z)) (by unfold f8_2; rw [if_neg c6, if_neg c15, if_neg c54, if_neg c63]), N, rfl⟩
    · skip
      refine own_iconst X hx hby (0 : Int32) d8_18 rfl 19 rfl ?_
      refine own_retN X hx hby hret hlk (t := .boolean) (z' := (0 : Int32)) (by simp) d8_19 (by decide) (by decide) rfl ?_
      rw [eT]
      exact ⟨congrArg (fun z => some (Value.int z)) (by unfold f8_2; rw [if_neg c6, if_pos c15]), N, rfl⟩
theorem ef_0 (p1 : Int32) (p2 : Int32) (p3 : Int32) (p4 : Int32) (p5 : Int32) (p6 : Int32) (m : MethodId) : entryFrame m #[(.int p1), (.int p2), (.int p3), (.int p4), (.int p5), (.int p6)] maxLocals = mkF m 0 #[.val (.int p1), .val (.int p2), .val (.int p3), .val (.int p4), .val (.int p5), .val (.int p6), .unset, .unset, .unset, .unset, .unset, .unset, .unset, .unset, .unset, .unset] [] := by first | (simp [entryFrame, mkF, argsToLocals, Value.category, maxLocals]; done) | rfl
def Q0 (Z : State) (p1 : Int32) (p2 : Int32) (p3 : Int32) (p4 : Int32) (p5 : Int32) (p6 : Int32) (h0 : Heap) (n0 : Nat) (v : Option Value) (h : Heap) (L : List Loc) : Prop := v = some (.int (1 : Int32)) ∧ Fr n0 L
theorem own_r361 (x v : Int32) (e : (((x &&& (2147483647 : Int32)) % (361 : Int32)) - (180 : Int32)) = v) : -180 ≤ v.toInt ∧ v.toInt ≤ 180 := by
  have h := c_mask x (2147483647 : Int32) 31 (by decide) (by decide)
  have h1 := c_irem (x &&& (2147483647 : Int32)) (361 : Int32) 361 (by decide)
  have h2 := h1.1 (by omega)
  clear h1
  have h3 := c_isub ((x &&& (2147483647 : Int32)) % (361 : Int32)) (180 : Int32)
  rw [e] at h3
  have h4 := rng32 v
  have q : (180 : Int32).toInt = 180 := rfl
  rw [q] at h3
  omega
theorem own_r181 (x v : Int32) (e : (((x &&& (2147483647 : Int32)) % (181 : Int32)) - (90 : Int32)) = v) : -90 ≤ v.toInt ∧ v.toInt ≤ 90 := by
  have h := c_mask x (2147483647 : Int32) 31 (by decide) (by decide)
  have h1 := c_irem (x &&& (2147483647 : Int32)) (181 : Int32) 181 (by decide)
  have h2 := h1.1 (by omega)
  clear h1
  have h3 := c_isub ((x &&& (2147483647 : Int32)) % (181 : Int32)) (90 : Int32)
  rw [e] at h3
  have h4 := rng32 v
  have q : (90 : Int32).toInt = 90 := rfl
  rw [q] at h3
  omega
theorem own_r801 (x v : Int32) (e : (((x &&& (2147483647 : Int32)) % (801 : Int32)) - (400 : Int32)) = v) : -400 ≤ v.toInt ∧ v.toInt ≤ 400 := by
  have h := c_mask x (2147483647 : Int32) 31 (by decide) (by decide)
  have h1 := c_irem (x &&& (2147483647 : Int32)) (801 : Int32) 801 (by decide)
  have h2 := h1.1 (by omega)
  clear h1
  have h3 := c_isub ((x &&& (2147483647 : Int32)) % (801 : Int32)) (400 : Int32)
  rw [e] at h3
  have h4 := rng32 v
  have q : (400 : Int32).toInt = 400 := rfl
  rw [q] at h3
  omega
theorem own_r401 (x v : Int32) (e : (((x &&& (2147483647 : Int32)) % (401 : Int32)) - (200 : Int32)) = v) : -200 ≤ v.toInt ∧ v.toInt ≤ 200 := by
  have h := c_mask x (2147483647 : Int32) 31 (by decide) (by decide)
  have h1 := c_irem (x &&& (2147483647 : Int32)) (401 : Int32) 401 (by decide)
  have h2 := h1.1 (by omega)
  clear h1
  have h3 := c_isub ((x &&& (2147483647 : Int32)) % (401 : Int32)) (200 : Int32)
  rw [e] at h3
  have h4 := rng32 v
  have q : (200 : Int32).toInt = 200 := rfl
  rw [q] at h3
  omega
theorem own_mn (a b v : Int32) (ha : -90 ≤ a.toInt ∧ a.toInt ≤ 90) (hb : -90 ≤ b.toInt ∧ b.toInt ≤ 90) (e : f1 a b = v) : -90 ≤ v.toInt ∧ v.toInt ≤ 90 := by
  rw [← e]
  unfold f1
  split
  · first | exact ha | exact hb
  · first | exact ha | exact hb
theorem own_mx (a b v : Int32) (ha : -90 ≤ a.toInt ∧ a.toInt ≤ 90) (hb : -90 ≤ b.toInt ∧ b.toInt ≤ 90) (e : f2 a b = v) : -90 ≤ v.toInt ∧ v.toInt ≤ 90 := by
  rw [← e]
  unfold f2
  split
  · first | exact ha | exact hb
  · first | exact ha | exact hb
theorem own_ord (a b u v : Int32) (e : f1 a b = u) (e2 : f2 a b = v) : u.toInt ≤ v.toInt := by
  rw [← e, ← e2]
  unfold f1 f2
  simp only [Int32.lt_iff_toInt_lt]
  repeat' split
  all_goals omega
theorem own_180 {x : Int32} (q : -90 ≤ x.toInt ∧ x.toInt ≤ 90) : -180 ≤ x.toInt ∧ x.toInt ≤ 180 := by omega
theorem own_400 {x : Int32} (q : -200 ≤ x.toInt ∧ x.toInt ≤ 200) : -400 ≤ x.toInt ∧ x.toInt ≤ 400 := by omega
theorem own_db (x : Int32) (q : -180 ≤ x.toInt ∧ x.toInt ≤ 180) : ((2 : Int32) * x).toInt = 2 * x.toInt := by
  have h := c_imul (2 : Int32) x
  have h4 := rng32 ((2 : Int32) * x)
  have e : (2 : Int32).toInt = 2 := rfl
  rw [e] at h
  omega
theorem own_ge {x : Int32} {k : Nat} (q : (k : Int) ≤ 2 * x.toInt + 400) : ¬ own_w x < k := by unfold own_w; omega
theorem own_le {x : Int32} {k : Nat} (q : 2 * x.toInt + 400 ≤ (k : Int)) : ¬ k < own_w x := by unfold own_w; omega
theorem own_so {x y : Int32} (q : x.toInt ≤ y.toInt) : ¬ own_w y < own_w x := by unfold own_w; omega
theorem own_c1 {x y : Int32} (hx : -400 ≤ x.toInt ∧ x.toInt ≤ 400) (hy : -180 ≤ y.toInt ∧ y.toInt ≤ 180) : own_l x < own_w y ↔ x.toInt < ((2 : Int32) * y).toInt := by rw [own_db y hy]; unfold own_l own_w; omega
theorem own_c2 {x y : Int32} (hx : -400 ≤ x.toInt ∧ x.toInt ≤ 400) (hy : -180 ≤ y.toInt ∧ y.toInt ≤ 180) : own_w y < own_l x ↔ ((2 : Int32) * y).toInt < x.toInt := by rw [own_db y hy]; unfold own_l own_w; omega
theorem own_c3 {x : Int32} (hx : -400 ≤ x.toInt ∧ x.toInt ≤ 400) : own_l x < 40 ↔ x.toInt < -360 := by unfold own_l; omega
theorem own_c4 {x : Int32} (hx : -400 ≤ x.toInt ∧ x.toInt ≤ 400) : 760 < own_l x ↔ 360 < x.toInt := by unfold own_l; omega
theorem own_c5 {x : Int32} (hx : -400 ≤ x.toInt ∧ x.toInt ≤ 400) : 40 < own_l x ↔ -360 < x.toInt := by unfold own_l; omega
theorem own_c6 {x : Int32} (hx : -400 ≤ x.toInt ∧ x.toInt ≤ 400) : own_l x < 760 ↔ x.toInt < 360 := by unfold own_l; omega
theorem own_c7 {x y : Int32} (hx : -180 ≤ x.toInt ∧ x.toInt ≤ 180) (hy : -180 ≤ y.toInt ∧ y.toInt ≤ 180) : own_w x < own_w y ↔ ((2 : Int32) * x).toInt < ((2 : Int32) * y).toInt := by rw [own_db y hy, own_db x hx]; unfold own_w; omega
theorem own_c8 {y : Int32} (hy : -180 ≤ y.toInt ∧ y.toInt ≤ 180) : own_w y = 40 ↔ ((2 : Int32) * y).toInt = -360 := by rw [own_db y hy]; unfold own_w; omega
theorem own_c9 {y : Int32} (hy : -180 ≤ y.toInt ∧ y.toInt ≤ 180) : own_w y = 760 ↔ ((2 : Int32) * y).toInt = 360 := by rw [own_db y hy]; unfold own_w; omega
theorem own_lawA (w s e n lo la : Int32) (hw : -180 ≤ w.toInt ∧ w.toInt ≤ 180) (hs : -180 ≤ s.toInt ∧ s.toInt ≤ 180) (he : -180 ≤ e.toInt ∧ e.toInt ≤ 180) (hn : -180 ≤ n.toInt ∧ n.toInt ≤ 180) (hlo : -400 ≤ lo.toInt ∧ lo.toInt ≤ 400) (hla : -400 ≤ la.toInt ∧ la.toInt ≤ 400) (iA : (own_w e) < (own_w w)) : (f8_2 (own_l lo) (own_l la) (own_w w) 760 40 (own_w e) (own_w s) (own_w n)) = (f9 ((2 : Int32) * w) ((2 : Int32) * s) ((2 : Int32) * e) ((2 : Int32) * n) lo la) := by
  have bw := own_db w hw
  have be := own_db e he
  simp only [own_c7 he hw, own_c8 hw, own_c9 he] at *
  unfold f8_2 f9
  simp only [Int32.lt_iff_toInt_lt, ← Int32.toInt_inj, own_c1 hlo hw, own_c1 hla hs, own_c2 hlo he, own_c2 hla hn, own_c3 hlo, own_c4 hlo, own_c5 hlo, own_c6 hlo, Int32.reduceToInt]
  generalize ((2 : Int32) * w).toInt = W at *
  generalize ((2 : Int32) * e).toInt = E at *
  generalize ((2 : Int32) * s).toInt = S at *
  generalize ((2 : Int32) * n).toInt = N at *
  by_cases qS : la.toInt < S
  · rw [if_pos qS, if_pos qS]
  rw [if_neg qS, if_neg qS]
  by_cases qN : N < la.toInt
  · rw [if_pos qN, if_pos qN]
  rw [if_neg qN, if_neg qN]
  clear qS qN hs hn hla
  rw [if_pos iA]
theorem own_lawB (w s e n lo la : Int32) (hw : -180 ≤ w.toInt ∧ w.toInt ≤ 180) (hs : -180 ≤ s.toInt ∧ s.toInt ≤ 180) (he : -180 ≤ e.toInt ∧ e.toInt ≤ 180) (hn : -180 ≤ n.toInt ∧ n.toInt ≤ 180) (hlo : -400 ≤ lo.toInt ∧ lo.toInt ≤ 400) (hla : -400 ≤ la.toInt ∧ la.toInt ≤ 400) (iN : ¬ (own_w e) < (own_w w)) (i1 : (own_w w) = 40) (i2 : (own_w e) = 760) : (f8_1 (own_l lo) (own_l la) (own_w w) (own_w e) (own_w s) (own_w n)) = (f9 ((2 : Int32) * w) ((2 : Int32) * s) ((2 : Int32) * e) ((2 : Int32) * n) lo la) := by
  have bw := own_db w hw
  have be := own_db e he
  simp only [own_c7 he hw, own_c8 hw, own_c9 he] at *
  unfold f8_1 f9
  simp only [Int32.lt_iff_toInt_lt, ← Int32.toInt_inj, own_c1 hlo hw, own_c1 hla hs, own_c2 hlo he, own_c2 hla hn, own_c3 hlo, own_c4 hlo, own_c5 hlo, own_c6 hlo, Int32.reduceToInt]
  generalize ((2 : Int32) * w).toInt = W at *
  generalize ((2 : Int32) * e).toInt = E at *
  generalize ((2 : Int32) * s).toInt = S at *
  generalize ((2 : Int32) * n).toInt = N at *
  by_cases qS : la.toInt < S
  · rw [if_pos qS, if_pos qS]
  rw [if_neg qS, if_neg qS]
  by_cases qN : N < la.toInt
  · rw [if_pos qN, if_pos qN]
  rw [if_neg qN, if_neg qN]
  clear qS qN hs hn hla
  rw [if_neg iN]
  by_cases q1 : lo.toInt < W
  · rw [if_pos q1, if_pos q1]
    repeat' split
    all_goals first | rfl | (exfalso; omega)
  rw [if_neg q1, if_neg q1]
  by_cases q2 : E < lo.toInt
  · repeat' split
    all_goals first | rfl | (exfalso; omega)
  repeat' split
  all_goals first | rfl | (exfalso; omega)
theorem own_lawC (w s e n lo la : Int32) (hw : -180 ≤ w.toInt ∧ w.toInt ≤ 180) (hs : -180 ≤ s.toInt ∧ s.toInt ≤ 180) (he : -180 ≤ e.toInt ∧ e.toInt ≤ 180) (hn : -180 ≤ n.toInt ∧ n.toInt ≤ 180) (hlo : -400 ≤ lo.toInt ∧ lo.toInt ≤ 400) (hla : -400 ≤ la.toInt ∧ la.toInt ≤ 400) (iN : ¬ (own_w e) < (own_w w)) (i1 : ¬ (own_w w) = 40) (i2 : (own_w e) = 760) : (f8_2 (own_l lo) (own_l la) (own_w w) (own_w e) 40 40 (own_w s) (own_w n)) = (f9 ((2 : Int32) * w) ((2 : Int32) * s) ((2 : Int32) * e) ((2 : Int32) * n) lo la) := by
  have bw := own_db w hw
  have be := own_db e he
  simp only [own_c7 he hw, own_c8 hw, own_c9 he] at *
  unfold f8_2 f9
  simp only [Int32.lt_iff_toInt_lt, ← Int32.toInt_inj, own_c1 hlo hw, own_c1 hla hs, own_c2 hlo he, own_c2 hla hn, own_c3 hlo, own_c4 hlo, own_c5 hlo, own_c6 hlo, Int32.reduceToInt]
  generalize ((2 : Int32) * w).toInt = W at *
  generalize ((2 : Int32) * e).toInt = E at *
  generalize ((2 : Int32) * s).toInt = S at *
  generalize ((2 : Int32) * n).toInt = N at *
  by_cases qS : la.toInt < S
  · rw [if_pos qS, if_pos qS]
  rw [if_neg qS, if_neg qS]
  by_cases qN : N < la.toInt
  · rw [if_pos qN, if_pos qN]
  rw [if_neg qN, if_neg qN]
  clear qS qN hs hn hla
  rw [if_neg iN]
  by_cases q1 : lo.toInt < W
  · rw [if_pos q1, if_pos q1]
    repeat' split
    all_goals first | rfl | (exfalso; omega)
  rw [if_neg q1, if_neg q1]
  by_cases q2 : E < lo.toInt
  · repeat' split
    all_goals first | rfl | (exfalso; omega)
  repeat' split
  all_goals first | rfl | (exfalso; omega)
theorem own_lawD (w s e n lo la : Int32) (hw : -180 ≤ w.toInt ∧ w.toInt ≤ 180) (hs : -180 ≤ s.toInt ∧ s.toInt ≤ 180) (he : -180 ≤ e.toInt ∧ e.toInt ≤ 180) (hn : -180 ≤ n.toInt ∧ n.toInt ≤ 180) (hlo : -400 ≤ lo.toInt ∧ lo.toInt ≤ 400) (hla : -400 ≤ la.toInt ∧ la.toInt ≤ 400) (iN : ¬ (own_w e) < (own_w w)) (i1 : (own_w w) = 40) (i2 : ¬ (own_w e) = 760) : (f8_2 (own_l lo) (own_l la) (own_w w) (own_w e) 760 760 (own_w s) (own_w n)) = (f9 ((2 : Int32) * w) ((2 : Int32) * s) ((2 : Int32) * e) ((2 : Int32) * n) lo la) := by
  have bw := own_db w hw
  have be := own_db e he
  simp only [own_c7 he hw, own_c8 hw, own_c9 he] at *
  unfold f8_2 f9
  simp only [Int32.lt_iff_toInt_lt, ← Int32.toInt_inj, own_c1 hlo hw, own_c1 hla hs, own_c2 hlo he, own_c2 hla hn, own_c3 hlo, own_c4 hlo, own_c5 hlo, own_c6 hlo, Int32.reduceToInt]
  generalize ((2 : Int32) * w).toInt = W at *
  generalize ((2 : Int32) * e).toInt = E at *
  generalize ((2 : Int32) * s).toInt = S at *
  generalize ((2 : Int32) * n).toInt = N at *
  by_cases qS : la.toInt < S
  · rw [if_pos qS, if_pos qS]
  rw [if_neg qS, if_neg qS]
  by_cases qN : N < la.toInt
  · rw [if_pos qN, if_pos qN]
  rw [if_neg qN, if_neg qN]
  clear qS qN hs hn hla
  rw [if_neg iN]
  by_cases q1 : lo.toInt < W
  · rw [if_pos q1, if_pos q1]
    repeat' split
    all_goals first | rfl | (exfalso; omega)
  rw [if_neg q1, if_neg q1]
  by_cases q2 : E < lo.toInt
  · repeat' split
    all_goals first | rfl | (exfalso; omega)
  repeat' split
  all_goals first | rfl | (exfalso; omega)
theorem own_lawE (w s e n lo la : Int32) (hw : -180 ≤ w.toInt ∧ w.toInt ≤ 180) (hs : -180 ≤ s.toInt ∧ s.toInt ≤ 180) (he : -180 ≤ e.toInt ∧ e.toInt ≤ 180) (hn : -180 ≤ n.toInt ∧ n.toInt ≤ 180) (hlo : -400 ≤ lo.toInt ∧ lo.toInt ≤ 400) (hla : -400 ≤ la.toInt ∧ la.toInt ≤ 400) (iN : ¬ (own_w e) < (own_w w)) (i1 : ¬ (own_w w) = 40) (i2 : ¬ (own_w e) = 760) : (f8_1 (own_l lo) (own_l la) (own_w w) (own_w e) (own_w s) (own_w n)) = (f9 ((2 : Int32) * w) ((2 : Int32) * s) ((2 : Int32) * e) ((2 : Int32) * n) lo la) := by
  have bw := own_db w hw
  have be := own_db e he
  simp only [own_c7 he hw, own_c8 hw, own_c9 he] at *
  unfold f8_1 f9
  simp only [Int32.lt_iff_toInt_lt, ← Int32.toInt_inj, own_c1 hlo hw, own_c1 hla hs, own_c2 hlo he, own_c2 hla hn, own_c3 hlo, own_c4 hlo, own_c5 hlo, own_c6 hlo, Int32.reduceToInt]
  generalize ((2 : Int32) * w).toInt = W at *
  generalize ((2 : Int32) * e).toInt = E at *
  generalize ((2 : Int32) * s).toInt = S at *
  generalize ((2 : Int32) * n).toInt = N at *
  by_cases qS : la.toInt < S
  · rw [if_pos qS, if_pos qS]
  rw [if_neg qS, if_neg qS]
  by_cases qN : N < la.toInt
  · rw [if_pos qN, if_pos qN]
  rw [if_neg qN, if_neg qN]
  clear qS qN hs hn hla
  rw [if_neg iN]
  by_cases q1 : lo.toInt < W
  · rw [if_pos q1, if_pos q1]
    repeat' split
    all_goals first | rfl | (exfalso; omega)
  rw [if_neg q1, if_neg q1]
  by_cases q2 : E < lo.toInt
  · repeat' split
    all_goals first | rfl | (exfalso; omega)
  repeat' split
  all_goals first | rfl | (exfalso; omega)

set_option maxRecDepth 65536 in
set_option maxHeartbeats 40000000 in
theorem rm0 (l : Launch) (Z : State) (a0 : Array Value) (hw : ∀ d ∈ tables_1, d.before a0 Z = true) (p1 : Int32) (p2 : Int32) (p3 : Int32) (p4 : Int32) (p5 : Int32) (p6 : Int32) (h0 : Heap) (n0 : Nat) (Zs : n0 ≤ h0.size) :
    Met1W l Z x code maxLocals ret room_1 #[(.int p1), (.int p2), (.int p3), (.int p4), (.int p5), (.int p6)] h0 (Q0 Z p1 p2 p3 p4 p5 p6 h0 n0) := by
  refine own_met_ofW (plainFor_of_name pn_9) (ef_0 p1 p2 p3 p4 p5 p6) ?_
  intro p e s m below meth c s₁ vm0 X hx hby hml hZ hown hnm hret hlk eT hS hs0
  have hown : (s.setVm vm0).vm.findClass "com/example/kvadtree/kvadtree/BoxContainsPinLaw" = some m.cls := hown
  have hk : 0 ≤ h0.size := Nat.zero_le _
  have N := Fr.nil n0
  have K := Keep.refl h0 []
  refine own_iloadN X hx hby p1 at_0 rfl 1 rfl ?_
  refine own_ldc X hx hby hZ (2147483647 : Int32) hown (hw _ (List.mem_of_getElem? (i := 0) rfl)) at_1 3 rfl ?_
  refine own_iand X hx hby at_3 4 rfl ?_
  refine own_sipush X hx hby (361 : Int32) at_4 rfl 7 rfl ?_
  refine own_irem X hx hby at_7 (by decide) 8 rfl ?_
  refine own_sipush X hx hby (180 : Int32) at_8 rfl 11 rfl ?_
  refine own_isub X hx hby at_11 12 rfl ?_
  obtain ⟨v12, e12⟩ : ∃ z : Int32, (((p1 &&& (2147483647 : Int32)) % (361 : Int32)) - (180 : Int32)) = z := ⟨_, rfl⟩
  refine own_istore X hx hby at_12 e12 (l' := #[.val (.int p1), .val (.int p2), .val (.int p3), .val (.int p4), .val (.int p5), .val (.int p6), .val (.int v12), .unset, .unset, .unset, .unset, .unset, .unset, .unset, .unset, .unset]) rfl 14 rfl ?_
  refine own_iloadN X hx hby p2 at_14 rfl 15 rfl ?_
  refine own_ldc X hx hby hZ (2147483647 : Int32) hown (hw _ (List.mem_of_getElem? (i := 0) rfl)) at_15 17 rfl ?_
  refine own_iand X hx hby at_17 18 rfl ?_
  refine own_sipush X hx hby (361 : Int32) at_18 rfl 21 rfl ?_
  refine own_irem X hx hby at_21 (by decide) 22 rfl ?_
  refine own_sipush X hx hby (180 : Int32) at_22 rfl 25 rfl ?_
  refine own_isub X hx hby at_25 26 rfl ?_
  obtain ⟨v26, e26⟩ : ∃ z : Int32, (((p2 &&& (2147483647 : Int32)) % (361 : Int32)) - (180 : Int32)) = z := ⟨_, rfl⟩
  refine own_istore X hx hby at_26 e26 (l' := #[.val (.int p1), .val (.int p2), .val (.int p3), .val (.int p4), .val (.int p5), .val (.int p6), .val (.int v12), .val (.int v26), .unset, .unset, .unset, .unset, .unset, .unset, .unset, .unset]) rfl 28 rfl ?_
  refine own_iloadN X hx hby p3 at_28 rfl 29 rfl ?_
  refine own_ldc X hx hby hZ (2147483647 : Int32) hown (hw _ (List.mem_of_getElem? (i := 0) rfl)) at_29 31 rfl ?_
  refine own_iand X hx hby at_31 32 rfl ?_
  refine own_sipush X hx hby (181 : Int32) at_32 rfl 35 rfl ?_
  refine own_irem X hx hby at_35 (by decide) 36 rfl ?_
  refine own_bipush X hx hby (90 : Int32) at_36 rfl 38 rfl ?_
  refine own_isub X hx hby at_38 39 rfl ?_
  obtain ⟨v39, e39⟩ : ∃ z : Int32, (((p3 &&& (2147483647 : Int32)) % (181 : Int32)) - (90 : Int32)) = z := ⟨_, rfl⟩
  refine own_istore X hx hby at_39 e39 (l' := #[.val (.int p1), .val (.int p2), .val (.int p3), .val (.int p4), .val (.int p5), .val (.int p6), .val (.int v12), .val (.int v26), .val (.int v39), .unset, .unset, .unset, .unset, .unset, .unset, .unset]) rfl 41 rfl ?_
  refine own_iloadN X hx hby p4 at_41 rfl 42 rfl ?_
  refine own_ldc X hx hby hZ (2147483647 : Int32) hown (hw _ (List.mem_of_getElem? (i := 0) rfl)) at_42 44 rfl ?_
  refine own_iand X hx hby at_44 45 rfl ?_
  refine own_sipush X hx hby (181 : Int32) at_45 rfl 48 rfl ?_
  refine own_irem X hx hby at_48 (by decide) 49 rfl ?_
  refine own_bipush X hx hby (90 : Int32) at_49 rfl 51 rfl ?_
  refine own_isub X hx hby at_51 52 rfl ?_
  obtain ⟨v52, e52⟩ : ∃ z : Int32, (((p4 &&& (2147483647 : Int32)) % (181 : Int32)) - (90 : Int32)) = z := ⟨_, rfl⟩
  refine own_istore X hx hby at_52 e52 (l' := #[.val (.int p1), .val (.int p2), .val (.int p3), .val (.int p4), .val (.int p5), .val (.int p6), .val (.int v12), .val (.int v26), .val (.int v39), .val (.int v52), .unset, .unset, .unset, .unset, .unset, .unset]) rfl 54 rfl ?_
  refine own_iload X hx hby v39 at_54 rfl 56 rfl ?_
  refine own_iload X hx hby v52 at_56 rfl 58 rfl ?_
  refine own_callS X hx hby hZ (st := []) [(.int v39), (.int v52)] rfl hown (hw _ (List.mem_of_getElem? (i := 1) rfl)) (hw _ (List.mem_of_getElem? (i := 2) rfl)) (hw _ (List.mem_of_getElem? (i := 3) rfl)) (hw _ (List.mem_of_getElem? (i := 4) rfl)) (by decide) at_58 (rm1 l Z a0 hw v39 v52 h0 n0 Zs ) eT pd_4 rfl (by rw [hml]; rfl) (by decide) 0 rfl (by decide) (by decide) (by decide) 61 rfl ?_
  intro T58 L9 v9 X hQ
  obtain ⟨rfl, N9, eT⟩ := hQ
  have N := Fr.app N N9
  show Go p e below _ T58 (mkF m 61 #[.val (.int p1), .val (.int p2), .val (.int p3), .val (.int p4), .val (.int p5), .val (.int p6), .val (.int v12), .val (.int v26), .val (.int v39), .val (.int v52), .unset, .unset, .unset, .unset, .unset, .unset] [(.int (f1 v39 v52))])
  obtain ⟨v61, e61⟩ : ∃ z : Int32, (f1 v39 v52) = z := ⟨_, rfl⟩
  refine own_istore X hx hby at_61 e61 (l' := #[.val (.int p1), .val (.int p2), .val (.int p3), .val (.int p4), .val (.int p5), .val (.int p6), .val (.int v12), .val (.int v26), .val (.int v39), .val (.int v52), .val (.int v61), .unset, .unset, .unset, .unset, .unset]) rfl 63 rfl ?_
  refine own_iload X hx hby v39 at_63 rfl 65 rfl ?_
  refine own_iload X hx hby v52 at_65 rfl 67 rfl ?_
  refine own_callS X hx hby hZ (st := []) [(.int v39), (.int v52)] rfl hown (hw _ (List.mem_of_getElem? (i := 5) rfl)) (hw _ (List.mem_of_getElem? (i := 6) rfl)) (hw _ (List.mem_of_getElem? (i := 3) rfl)) (hw _ (List.mem_of_getElem? (i := 7) rfl)) (by decide) at_67 (rm2 l Z a0 hw v39 v52 h0 n0 Zs ) eT pd_4 rfl (by rw [hml]; rfl) (by decide) 0 rfl (by decide) (by decide) (by decide) 70 rfl ?_
  intro T67 L9 v9 X hQ
  obtain ⟨rfl, N9, eT⟩ := hQ
  have N := Fr.app N N9
  show Go p e below _ T67 (mkF m 70 #[.val (.int p1), .val (.int p2), .val (.int p3), .val (.int p4), .val (.int p5), .val (.int p6), .val (.int v12), .val (.int v26), .val (.int v39), .val (.int v52), .val (.int v61), .unset, .unset, .unset, .unset, .unset] [(.int (f2 v39 v52))])
  obtain ⟨v70, e70⟩ : ∃ z : Int32, (f2 v39 v52) = z := ⟨_, rfl⟩
  refine own_istore X hx hby at_70 e70 (l' := #[.val (.int p1), .val (.int p2), .val (.int p3), .val (.int p4), .val (.int p5), .val (.int p6), .val (.int v12), .val (.int v26), .val (.int v39), .val (.int v52), .val (.int v61), .val (.int v70), .unset, .unset, .unset, .unset]) rfl 72 rfl ?_
  refine own_iload X hx hby p5 at_72 rfl 74 rfl ?_
  refine own_ldc X hx hby hZ (2147483647 : Int32) hown (hw _ (List.mem_of_getElem? (i := 0) rfl)) at_74 76 rfl ?_
  refine own_iand X hx hby at_76 77 rfl ?_
  refine own_sipush X hx hby (801 : Int32) at_77 rfl 80 rfl ?_
  refine own_irem X hx hby at_80 (by decide) 81 rfl ?_
  refine own_sipush X hx hby (400 : Int32) at_81 rfl 84 rfl ?_
  refine own_isub X hx hby at_84 85 rfl ?_
  obtain ⟨v85, e85⟩ : ∃ z : Int32, (((p5 &&& (2147483647 : Int32)) % (801 : Int32)) - (400 : Int32)) = z := ⟨_, rfl⟩
  refine own_istore X hx hby at_85 e85 (l' := #[.val (.int p1), .val (.int p2), .val (.int p3), .val (.int p4), .val (.int p5), .val (.int p6), .val (.int v12), .val (.int v26), .val (.int v39), .val (.int v52), .val (.int v61), .val (.int v70), .val (.int v85), .unset, .unset, .unset]) rfl 87 rfl ?_
  refine own_iload X hx hby p6 at_87 rfl 89 rfl ?_
  refine own_ldc X hx hby hZ (2147483647 : Int32) hown (hw _ (List.mem_of_getElem? (i := 0) rfl)) at_89 91 rfl ?_
  refine own_iand X hx hby at_91 92 rfl ?_
  refine own_sipush X hx hby (401 : Int32) at_92 rfl 95 rfl ?_
  refine own_irem X hx hby at_95 (by decide) 96 rfl ?_
  refine own_sipush X hx hby (200 : Int32) at_96 rfl 99 rfl ?_
  refine own_isub X hx hby at_99 100 rfl ?_
  obtain ⟨v100, e100⟩ : ∃ z : Int32, (((p6 &&& (2147483647 : Int32)) % (401 : Int32)) - (200 : Int32)) = z := ⟨_, rfl⟩
  refine own_istore X hx hby at_100 e100 (l' := #[.val (.int p1), .val (.int p2), .val (.int p3), .val (.int p4), .val (.int p5), .val (.int p6), .val (.int v12), .val (.int v26), .val (.int v39), .val (.int v52), .val (.int v61), .val (.int v70), .val (.int v85), .val (.int v100), .unset, .unset]) rfl 102 rfl ?_
  refine own_new X hx hby hZ hown (hw _ (List.mem_of_getElem? (i := 8) rfl)) (hw _ (List.mem_of_getElem? (i := 9) rfl)) (hw _ (List.mem_of_getElem? (i := 10) rfl)) eT at_102 (by decide) (by decide) 105 rfl ?_
  intro T102 h102 b102 gb102 X eT Ex A D
  have g_b102 : n0 ≤ b102 := by rw [gb102]; exact Zs
  have sz_b102 : h0.size ≤ b102 := by rw [gb102]; exact K.1
  have hk := Nat.le_trans hk Ex.1
  have E_b102 := A
  have F_west_b102 : Fld Z h102 b102 "com/example/kvadtree/kvadtree/Box" "west" "D" (.double (own_h 400)) := by rw [own_h400]; exact D (Or.inr (hw _ (List.mem_of_getElem? (i := 40) rfl))) (ty := .double) (by decide)
  have F_south_b102 : Fld Z h102 b102 "com/example/kvadtree/kvadtree/Box" "south" "D" (.double (own_h 400)) := by rw [own_h400]; exact D (Or.inr (hw _ (List.mem_of_getElem? (i := 42) rfl))) (ty := .double) (by decide)
  have F_east_b102 : Fld Z h102 b102 "com/example/kvadtree/kvadtree/Box" "east" "D" (.double (own_h 400)) := by rw [own_h400]; exact D (Or.inr (hw _ (List.mem_of_getElem? (i := 44) rfl))) (ty := .double) (by decide)
  have F_north_b102 : Fld Z h102 b102 "com/example/kvadtree/kvadtree/Box" "north" "D" (.double (own_h 400)) := by rw [own_h400]; exact D (Or.inr (hw _ (List.mem_of_getElem? (i := 46) rfl))) (ty := .double) (by decide)
  have F_intervals_b102 : Fld Z h102 b102 "com/example/kvadtree/kvadtree/Box" "intervals" "[[D" .null := D (Or.inr (hw _ (List.mem_of_getElem? (i := 57) rfl))) (ty := (.array (.array .double))) (by decide)
  have K := K.ext Ex
  have Zs := Nat.le_trans Zs Ex.1
  refine own_dup X hx hby at_105 rfl 106 rfl ?_
  refine own_iload X hx hby v12 at_106 rfl 108 rfl ?_
  refine own_i2d X hx hby (own_h (own_w v12)) at_108 (own_i2 _ (own_r361 _ _ e12)) 109 rfl ?_
  refine own_iload X hx hby v61 at_109 rfl 111 rfl ?_
  refine own_i2d X hx hby (own_h (own_w v61)) at_111 (own_i2 _ (own_180 (own_mn _ _ _ (own_r181 _ _ e39) (own_r181 _ _ e52) e61))) 112 rfl ?_
  refine own_iload X hx hby v26 at_112 rfl 114 rfl ?_
  refine own_i2d X hx hby (own_h (own_w v26)) at_114 (own_i2 _ (own_r361 _ _ e26)) 115 rfl ?_
  refine own_iload X hx hby v70 at_115 rfl 117 rfl ?_
  refine own_i2d X hx hby (own_h (own_w v70)) at_117 (own_i2 _ (own_180 (own_mx _ _ _ (own_r181 _ _ e39) (own_r181 _ _ e52) e70))) 118 rfl ?_
  by_cases iA : (own_w v26) < (own_w v12)
  · skip
    refine own_callCW X hx hby hZ (st := [(.ref b102)]) [(.double (own_h (own_w v12))), (.double (own_h (own_w v61))), (.double (own_h (own_w v26))), (.double (own_h (own_w v70)))] rfl rfl hown hS hk (hw _ (List.mem_of_getElem? (i := 11) rfl)) (hw _ (List.mem_of_getElem? (i := 12) rfl)) (hw _ (List.mem_of_getElem? (i := 10) rfl)) (hw _ (List.mem_of_getElem? (i := 13) rfl)) (by decide) at_118 (rm3_A l Z a0 hw b102 (own_w v12) (own_w v61) (own_w v26) (own_w v70) 400 400 400 400 .null h102 n0 Zs (own_wb (own_r361 _ _ e12)) (own_wb (own_180 (own_mn _ _ _ (own_r181 _ _ e39) (own_r181 _ _ e52) e61))) (own_wb (own_r361 _ _ e26)) (own_wb (own_180 (own_mx _ _ _ (own_r181 _ _ e39) (own_r181 _ _ e52) e70))) (own_ge (by have := (own_r361 _ _ e12); omega)) (own_le (by have := (own_r361 _ _ e12); omega)) (own_ge (by have := (own_mn _ _ _ (own_r181 _ _ e39) (own_r181 _ _ e52) e61); omega)) (own_le (by have := (own_mn _ _ _ (own_r181 _ _ e39) (own_r181 _ _ e52) e61); omega)) (own_ge (by have := (own_r361 _ _ e26); omega)) (own_le (by have := (own_r361 _ _ e26); omega)) (own_ge (by have := (own_mx _ _ _ (own_r181 _ _ e39) (own_r181 _ _ e52) e70); omega)) (own_le (by have := (own_mx _ _ _ (own_r181 _ _ e39) (own_r181 _ _ e52) e70); omega)) (own_so (own_ord _ _ _ _ e61 e70)) iA E_b102 (by decide) F_west_b102 (by decide) F_south_b102 (by decide) F_east_b102 (by decide) F_north_b102 F_intervals_b102 g_b102) eT pd_3 rfl (by rw [hml]; rfl) (by decide) 1 rfl (by decide) (by decide) (by decide) 121 rfl ?_
    intro T118 L9 v9 vm118 X hS hZ hown hQ
    obtain ⟨h118, eT⟩ : ∃ z, T118.heap = z := ⟨_, rfl⟩
    rw [eT] at hQ
    have lt_b102 := E_b102.lt
    obtain ⟨b118b79b7, b118b79b13, b118b79b29, rfl, N9, Kc, hs_b118b79b7, hs_b118b79b13, hs_b118b79b29, E_b102, F_west_b102, F_south_b102, F_east_b102, F_north_b102, F_intervals_b102, A_b118b79b7, E_b118b79b7, A_b118b79b13, E_b118b79b13, A_b118b79b29, E_b118b79b29⟩ := hQ
    have g_b118b79b7 : n0 ≤ b118b79b7 := Nat.le_trans Zs hs_b118b79b7
    have sz_b118b79b7 : h0.size ≤ b118b79b7 := Nat.le_trans K.1 hs_b118b79b7
    have ne_b102_b118b79b7 : b102 ≠ b118b79b7 := Nat.ne_of_lt (Nat.lt_of_lt_of_le lt_b102 hs_b118b79b7)
    have g_b118b79b13 : n0 ≤ b118b79b13 := Nat.le_trans Zs hs_b118b79b13
    have sz_b118b79b13 : h0.size ≤ b118b79b13 := Nat.le_trans K.1 hs_b118b79b13
    have ne_b102_b118b79b13 : b102 ≠ b118b79b13 := Nat.ne_of_lt (Nat.lt_of_lt_of_le lt_b102 hs_b118b79b13)
    have g_b118b79b29 : n0 ≤ b118b79b29 := Nat.le_trans Zs hs_b118b79b29
    have sz_b118b79b29 : h0.size ≤ b118b79b29 := Nat.le_trans K.1 hs_b118b79b29
    have ne_b102_b118b79b29 : b102 ≠ b118b79b29 := Nat.ne_of_lt (Nat.lt_of_lt_of_le lt_b102 hs_b118b79b29)
    have hk : T118.heap.size ≤ h118.size := by rw [eT]; exact Nat.le_refl _
    have K := K.trans Kc (allS (Or.inr sz_b102) all0)
    have Zs := Nat.le_trans Zs Kc.1
    have N := Fr.app N N9
    show Go p e below _ T118 (mkF m 121 #[.val (.int p1), .val (.int p2), .val (.int p3), .val (.int p4), .val (.int p5), .val (.int p6), .val (.int v12), .val (.int v26), .val (.int v39), .val (.int v52), .val (.int v61), .val (.int v70), .val (.int v85), .val (.int v100), .unset, .unset] [(.ref b102)])
    refine own_astore X hx hby at_121 rfl (l' := #[.val (.int p1), .val (.int p2), .val (.int p3), .val (.int p4), .val (.int p5), .val (.int p6), .val (.int v12), .val (.int v26), .val (.int v39), .val (.int v52), .val (.int v61), .val (.int v70), .val (.int v85), .val (.int v100), .val (.ref b102), .unset]) rfl 123 rfl ?_
    refine own_aload X hx hby (.ref b102) at_123 rfl rfl 125 rfl ?_
    refine own_iload X hx hby v85 at_125 rfl 127 rfl ?_
    refine own_i2d X hx hby (FP.i2d v85) at_127 rfl 128 rfl ?_
    refine own_ldc2D X hx hby hZ (own_h 404) hown (hw _ (List.mem_of_getElem? (i := 58) rfl)) own_k404 at_128 131 rfl ?_
    refine own_ddiv X hx hby (own_h (own_l v85)) at_131 (own_di _ (own_r801 _ _ e85)) (own_nn (own_lb (own_r801 _ _ e85))) 132 rfl ?_
    refine own_iload X hx hby v100 at_132 rfl 134 rfl ?_
    refine own_i2d X hx hby (FP.i2d v100) at_134 rfl 135 rfl ?_
    refine own_ldc2D X hx hby hZ (own_h 404) hown (hw _ (List.mem_of_getElem? (i := 58) rfl)) own_k404 at_135 138 rfl ?_
    refine own_ddiv X hx hby (own_h (own_l v100)) at_138 (own_di _ (own_400 (own_r401 _ _ e100))) (own_nn (own_lb (own_400 (own_r401 _ _ e100)))) 139 rfl ?_
    refine own_callV X hx hby hZ (st := []) [(.double (own_h (own_l v85))), (.double (own_h (own_l v100)))] rfl hown (hw _ (List.mem_of_getElem? (i := 59) rfl)) (hw _ (List.mem_of_getElem? (i := 60) rfl)) (hw _ (List.mem_of_getElem? (i := 62) rfl)) (hw _ (List.mem_of_getElem? (i := 61) rfl)) (hw _ (List.mem_of_getElem? (i := 10) rfl)) (hw _ (List.mem_of_getElem? (i := 63) rfl)) E_b102 (by decide) at_139 (rm8_2 l Z a0 hw b102 (own_l v85) (own_l v100) b118b79b13 (own_w v12) 760 b118b79b29 40 (own_w v26) (own_w v61) (own_w v70) b118b79b7 h118 n0 Zs (own_lb (own_r801 _ _ e85)) (own_lb (own_400 (own_r401 _ _ e100))) A_b118b79b7 A_b118b79b13 (own_wb (own_r361 _ _ e12)) (by decide) A_b118b79b29 (by decide) (own_wb (own_r361 _ _ e26)) E_b102 (own_wb (own_180 (own_mn _ _ _ (own_r181 _ _ e39) (own_r181 _ _ e52) e61))) F_south_b102 (own_wb (own_180 (own_mx _ _ _ (own_r181 _ _ e39) (own_r181 _ _ e52) e70))) F_north_b102 F_intervals_b102) eT pd_1 rfl (by rw [hml]; rfl) (by decide) 0 rfl (by decide) (by decide) (by decide) 142 rfl ?_
    intro T139 L9 v9 X hQ
    obtain ⟨rfl, N9, eT⟩ := hQ
    have N := Fr.app N N9
    show Go p e below _ T139 (mkF m 142 #[.val (.int p1), .val (.int p2), .val (.int p3), .val (.int p4), .val (.int p5), .val (.int p6), .val (.int v12), .val (.int v26), .val (.int v39), .val (.int v52), .val (.int v61), .val (.int v70), .val (.int v85), .val (.int v100), .val (.ref b102), .unset] [(.int (f8_2 (own_l v85) (own_l v100) (own_w v12) 760 40 (own_w v26) (own_w v61) (own_w v70)))])
    obtain ⟨v142, e142⟩ : ∃ z : Int32, (f8_2 (own_l v85) (own_l v100) (own_w v12) 760 40 (own_w v26) (own_w v61) (own_w v70)) = z := ⟨_, rfl⟩
    refine own_istore X hx hby at_142 e142 (l' := #[.val (.int p1), .val (.int p2), .val (.int p3), .val (.int p4), .val (.int p5), .val (.int p6), .val (.int v12), .val (.int v26), .val (.int v39), .val (.int v52), .val (.int v61), .val (.int v70), .val (.int v85), .val (.int v100), .val (.ref b102), .val (.int v142)]) rfl 144 rfl ?_
    refine own_iload X hx hby v142 at_144 rfl 146 rfl ?_
    refine own_iconst X hx hby (2 : Int32) at_146 rfl 147 rfl ?_
    refine own_iload X hx hby v12 at_147 rfl 149 rfl ?_
    refine own_imul X hx hby at_149 150 rfl ?_
    refine own_iconst X hx hby (2 : Int32) at_150 rfl 151 rfl ?_
    refine own_iload X hx hby v61 at_151 rfl 153 rfl ?_
    refine own_imul X hx hby at_153 154 rfl ?_
    refine own_iconst X hx hby (2 : Int32) at_154 rfl 155 rfl ?_
    refine own_iload X hx hby v26 at_155 rfl 157 rfl ?_
    refine own_imul X hx hby at_157 158 rfl ?_
    refine own_iconst X hx hby (2 : Int32) at_158 rfl 159 rfl ?_
    refine own_iload X hx hby v70 at_159 rfl 161 rfl ?_
    refine own_imul X hx hby at_161 162 rfl ?_
    refine own_iload X hx hby v85 at_162 rfl 164 rfl ?_
    refine own_iload X hx hby v100 at_164 rfl 166 rfl ?_
    refine own_callS X hx hby hZ (st := [(.int v142)]) [(.int ((2 : Int32) * v12)), (.int ((2 : Int32) * v61)), (.int ((2 : Int32) * v26)), (.int ((2 : Int32) * v70)), (.int v85), (.int v100)] rfl hown (hw _ (List.mem_of_getElem? (i := 64) rfl)) (hw _ (List.mem_of_getElem? (i := 65) rfl)) (hw _ (List.mem_of_getElem? (i := 66) rfl)) (hw _ (List.mem_of_getElem? (i := 67) rfl)) (by decide) at_166 (rm9 l Z a0 hw ((2 : Int32) * v12) ((2 : Int32) * v61) ((2 : Int32) * v26) ((2 : Int32) * v70) v85 v100 h118 n0 Zs ) eT pd_5 rfl (by rw [hml]; rfl) (by decide) 1 rfl (by decide) (by decide) (by decide) 169 rfl ?_
    intro T166 L9 v9 X hQ
    obtain ⟨rfl, N9, eT⟩ := hQ
    have N := Fr.app N N9
    show Go p e below _ T166 (mkF m 169 #[.val (.int p1), .val (.int p2), .val (.int p3), .val (.int p4), .val (.int p5), .val (.int p6), .val (.int v12), .val (.int v26), .val (.int v39), .val (.int v52), .val (.int v61), .val (.int v70), .val (.int v85), .val (.int v100), .val (.ref b102), .val (.int v142)] [(.int (f9 ((2 : Int32) * v12) ((2 : Int32) * v61) ((2 : Int32) * v26) ((2 : Int32) * v70) v85 v100)), (.int v142)])
    have c169 : v142 = (f9 ((2 : Int32) * v12) ((2 : Int32) * v61) ((2 : Int32) * v26) ((2 : Int32) * v70) v85 v100) := by rw [← e142]; exact own_lawA _ _ _ _ _ _ (own_r361 _ _ e12) (own_180 (own_mn _ _ _ (own_r181 _ _ e39) (own_r181 _ _ e52) e61)) (own_r361 _ _ e26) (own_180 (own_mx _ _ _ (own_r181 _ _ e39) (own_r181 _ _ e52) e70)) (own_r801 _ _ e85) (own_400 (own_r401 _ _ e100)) iA
    refine own_icmp_ne X hx hby at_169 176 172 (by decide) rfl (fun q => absurd c169 q) (fun _ => ?_)
    refine own_iconst X hx hby (1 : Int32) at_172 rfl 173 rfl ?_
    refine own_goto X hx hby at_173 177 (by decide) ?_
    refine own_retNW X hx hby hS (by rw [eT]; exact hk) hret hlk (t := .boolean) (z' := (1 : Int32)) (by simp) at_177 (by decide) (by decide) rfl ?_
    rw [eT]
    exact ⟨rfl, N⟩
  · have iN := iA
    by_cases i1 : (own_w v12) = 40
    · by_cases i2 : (own_w v26) = 760
      · skip
        refine own_callCW X hx hby hZ (st := [(.ref b102)]) [(.double (own_h (own_w v12))), (.double (own_h (own_w v61))), (.double (own_h (own_w v26))), (.double (own_h (own_w v70)))] rfl rfl hown hS hk (hw _ (List.mem_of_getElem? (i := 11) rfl)) (hw _ (List.mem_of_getElem? (i := 12) rfl)) (hw _ (List.mem_of_getElem? (i := 10) rfl)) (hw _ (List.mem_of_getElem? (i := 13) rfl)) (by decide) at_118 (rm3_B l Z a0 hw b102 (own_w v12) (own_w v61) (own_w v26) (own_w v70) 400 400 400 400 .null h102 n0 Zs (own_wb (own_r361 _ _ e12)) (own_wb (own_180 (own_mn _ _ _ (own_r181 _ _ e39) (own_r181 _ _ e52) e61))) (own_wb (own_r361 _ _ e26)) (own_wb (own_180 (own_mx _ _ _ (own_r181 _ _ e39) (own_r181 _ _ e52) e70))) (own_ge (by have := (own_r361 _ _ e12); omega)) (own_le (by have := (own_r361 _ _ e12); omega)) (own_ge (by have := (own_mn _ _ _ (own_r181 _ _ e39) (own_r181 _ _ e52) e61); omega)) (own_le (by have := (own_mn _ _ _ (own_r181 _ _ e39) (own_r181 _ _ e52) e61); omega)) (own_ge (by have := (own_r361 _ _ e26); omega)) (own_le (by have := (own_r361 _ _ e26); omega)) (own_ge (by have := (own_mx _ _ _ (own_r181 _ _ e39) (own_r181 _ _ e52) e70); omega)) (own_le (by have := (own_mx _ _ _ (own_r181 _ _ e39) (own_r181 _ _ e52) e70); omega)) (own_so (own_ord _ _ _ _ e61 e70)) iN i1 i2 E_b102 (by decide) F_west_b102 (by decide) F_south_b102 (by decide) F_east_b102 (by decide) F_north_b102 F_intervals_b102 g_b102) eT pd_3 rfl (by rw [hml]; rfl) (by decide) 1 rfl (by decide) (by decide) (by decide) 121 rfl ?_
        intro T118 L9 v9 vm118 X hS hZ hown hQ
        obtain ⟨h118, eT⟩ : ∃ z, T118.heap = z := ⟨_, rfl⟩
        rw [eT] at hQ
        have lt_b102 := E_b102.lt
        obtain ⟨b118b79b64, b118b79b70, rfl, N9, Kc, hs_b118b79b64, hs_b118b79b70, E_b102, F_west_b102, F_south_b102, F_east_b102, F_north_b102, F_intervals_b102, A_b118b79b64, E_b118b79b64, A_b118b79b70, E_b118b79b70⟩ := hQ
        have g_b118b79b64 : n0 ≤ b118b79b64 := Nat.le_trans Zs hs_b118b79b64
        have sz_b118b79b64 : h0.size ≤ b118b79b64 := Nat.le_trans K.1 hs_b118b79b64
        have ne_b102_b118b79b64 : b102 ≠ b118b79b64 := Nat.ne_of_lt (Nat.lt_of_lt_of_le lt_b102 hs_b118b79b64)
        have g_b118b79b70 : n0 ≤ b118b79b70 := Nat.le_trans Zs hs_b118b79b70
        have sz_b118b79b70 : h0.size ≤ b118b79b70 := Nat.le_trans K.1 hs_b118b79b70
        have ne_b102_b118b79b70 : b102 ≠ b118b79b70 := Nat.ne_of_lt (Nat.lt_of_lt_of_le lt_b102 hs_b118b79b70)
        have hk : T118.heap.size ≤ h118.size := by rw [eT]; exact Nat.le_refl _
        have K := K.trans Kc (allS (Or.inr sz_b102) all0)
        have Zs := Nat.le_trans Zs Kc.1
        have N := Fr.app N N9
        show Go p e below _ T118 (mkF m 121 #[.val (.int p1), .val (.int p2), .val (.int p3), .val (.int p4), .val (.int p5), .val (.int p6), .val (.int v12), .val (.int v26), .val (.int v39), .val (.int v52), .val (.int v61), .val (.int v70), .val (.int v85), .val (.int v100), .unset, .unset] [(.ref b102)])
        refine own_astore X hx hby at_121 rfl (l' := #[.val (.int p1), .val (.int p2), .val (.int p3), .val (.int p4), .val (.int p5), .val (.int p6), .val (.int v12), .val (.int v26), .val (.int v39), .val (.int v52), .val (.int v61), .val (.int v70), .val (.int v85), .val (.int v100), .val (.ref b102), .unset]) rfl 123 rfl ?_
        refine own_aload X hx hby (.ref b102) at_123 rfl rfl 125 rfl ?_
        refine own_iload X hx hby v85 at_125 rfl 127 rfl ?_
        refine own_i2d X hx hby (FP.i2d v85) at_127 rfl 128 rfl ?_
        refine own_ldc2D X hx hby hZ (own_h 404) hown (hw _ (List.mem_of_getElem? (i := 58) rfl)) own_k404 at_128 131 rfl ?_
        refine own_ddiv X hx hby (own_h (own_l v85)) at_131 (own_di _ (own_r801 _ _ e85)) (own_nn (own_lb (own_r801 _ _ e85))) 132 rfl ?_
        refine own_iload X hx hby v100 at_132 rfl 134 rfl ?_
        refine own_i2d X hx hby (FP.i2d v100) at_134 rfl 135 rfl ?_
        refine own_ldc2D X hx hby hZ (own_h 404) hown (hw _ (List.mem_of_getElem? (i := 58) rfl)) own_k404 at_135 138 rfl ?_
        refine own_ddiv X hx hby (own_h (own_l v100)) at_138 (own_di _ (own_400 (own_r401 _ _ e100))) (own_nn (own_lb (own_400 (own_r401 _ _ e100)))) 139 rfl ?_
        refine own_callV X hx hby hZ (st := []) [(.double (own_h (own_l v85))), (.double (own_h (own_l v100)))] rfl hown (hw _ (List.mem_of_getElem? (i := 59) rfl)) (hw _ (List.mem_of_getElem? (i := 60) rfl)) (hw _ (List.mem_of_getElem? (i := 62) rfl)) (hw _ (List.mem_of_getElem? (i := 61) rfl)) (hw _ (List.mem_of_getElem? (i := 10) rfl)) (hw _ (List.mem_of_getElem? (i := 63) rfl)) E_b102 (by decide) at_139 (rm8_1 l Z a0 hw b102 (own_l v85) (own_l v100) b118b79b70 (own_w v12) (own_w v26) (own_w v61) (own_w v70) b118b79b64 h118 n0 Zs (own_lb (own_r801 _ _ e85)) (own_lb (own_400 (own_r401 _ _ e100))) A_b118b79b64 A_b118b79b70 (own_wb (own_r361 _ _ e12)) (own_wb (own_r361 _ _ e26)) E_b102 (own_wb (own_180 (own_mn _ _ _ (own_r181 _ _ e39) (own_r181 _ _ e52) e61))) F_south_b102 (own_wb (own_180 (own_mx _ _ _ (own_r181 _ _ e39) (own_r181 _ _ e52) e70))) F_north_b102 F_intervals_b102) eT pd_1 rfl (by rw [hml]; rfl) (by decide) 0 rfl (by decide) (by decide) (by decide) 142 rfl ?_
        intro T139 L9 v9 X hQ
        obtain ⟨rfl, N9, eT⟩ := hQ
        have N := Fr.app N N9
        show Go p e below _ T139 (mkF m 142 #[.val (.int p1), .val (.int p2), .val (.int p3), .val (.int p4), .val (.int p5), .val (.int p6), .val (.int v12), .val (.int v26), .val (.int v39), .val (.int v52), .val (.int v61), .val (.int v70), .val (.int v85), .val (.int v100), .val (.ref b102), .unset] [(.int (f8_1 (own_l v85) (own_l v100) (own_w v12) (own_w v26) (own_w v61) (own_w v70)))])
        obtain ⟨v142, e142⟩ : ∃ z : Int32, (f8_1 (own_l v85) (own_l v100) (own_w v12) (own_w v26) (own_w v61) (own_w v70)) = z := ⟨_, rfl⟩
        refine own_istore X hx hby at_142 e142 (l' := #[.val (.int p1), .val (.int p2), .val (.int p3), .val (.int p4), .val (.int p5), .val (.int p6), .val (.int v12), .val (.int v26), .val (.int v39), .val (.int v52), .val (.int v61), .val (.int v70), .val (.int v85), .val (.int v100), .val (.ref b102), .val (.int v142)]) rfl 144 rfl ?_
        refine own_iload X hx hby v142 at_144 rfl 146 rfl ?_
        refine own_iconst X hx hby (2 : Int32) at_146 rfl 147 rfl ?_
        refine own_iload X hx hby v12 at_147 rfl 149 rfl ?_
        refine own_imul X hx hby at_149 150 rfl ?_
        refine own_iconst X hx hby (2 : Int32) at_150 rfl 151 rfl ?_
        refine own_iload X hx hby v61 at_151 rfl 153 rfl ?_
        refine own_imul X hx hby at_153 154 rfl ?_
        refine own_iconst X hx hby (2 : Int32) at_154 rfl 155 rfl ?_
        refine own_iload X hx hby v26 at_155 rfl 157 rfl ?_
        refine own_imul X hx hby at_157 158 rfl ?_
        refine own_iconst X hx hby (2 : Int32) at_158 rfl 159 rfl ?_
        refine own_iload X hx hby v70 at_159 rfl 161 rfl ?_
        refine own_imul X hx hby at_161 162 rfl ?_
        refine own_iload X hx hby v85 at_162 rfl 164 rfl ?_
        refine own_iload X hx hby v100 at_164 rfl 166 rfl ?_
        refine own_callS X hx hby hZ (st := [(.int v142)]) [(.int ((2 : Int32) * v12)), (.int ((2 : Int32) * v61)), (.int ((2 : Int32) * v26)), (.int ((2 : Int32) * v70)), (.int v85), (.int v100)] rfl hown (hw _ (List.mem_of_getElem? (i := 64) rfl)) (hw _ (List.mem_of_getElem? (i := 65) rfl)) (hw _ (List.mem_of_getElem? (i := 66) rfl)) (hw _ (List.mem_of_getElem? (i := 67) rfl)) (by decide) at_166 (rm9 l Z a0 hw ((2 : Int32) * v12) ((2 : Int32) * v61) ((2 : Int32) * v26) ((2 : Int32) * v70) v85 v100 h118 n0 Zs ) eT pd_5 rfl (by rw [hml]; rfl) (by decide) 1 rfl (by decide) (by decide) (by decide) 169 rfl ?_
        intro T166 L9 v9 X hQ
        obtain ⟨rfl, N9, eT⟩ := hQ
        have N := Fr.app N N9
        show Go p e below _ T166 (mkF m 169 #[.val (.int p1), .val (.int p2), .val (.int p3), .val (.int p4), .val (.int p5), .val (.int p6), .val (.int v12), .val (.int v26), .val (.int v39), .val (.int v52), .val (.int v61), .val (.int v70), .val (.int v85), .val (.int v100), .val (.ref b102), .val (.int v142)] [(.int (f9 ((2 : Int32) * v12) ((2 : Int32) * v61) ((2 : Int32) * v26) ((2 : Int32) * v70) v85 v100)), (.int v142)])
        have c169 : v142 = (f9 ((2 : Int32) * v12) ((2 : Int32) * v61) ((2 : Int32) * v26) ((2 : Int32) * v70) v85 v100) := by rw [← e142]; exact own_lawB _ _ _ _ _ _ (own_r361 _ _ e12) (own_180 (own_mn _ _ _ (own_r181 _ _ e39) (own_r181 _ _ e52) e61)) (own_r361 _ _ e26) (own_180 (own_mx _ _ _ (own_r181 _ _ e39) (own_r181 _ _ e52) e70)) (own_r801 _ _ e85) (own_400 (own_r401 _ _ e100)) iN i1 i2
        refine own_icmp_ne X hx hby at_169 176 172 (by decide) rfl (fun q => absurd c169 q) (fun _ => ?_)
        refine own_iconst X hx hby (1 : Int32) at_172 rfl 173 rfl ?_
        refine own_goto X hx hby at_173 177 (by decide) ?_
        refine own_retNW X hx hby hS (by rw [eT]; exact hk) hret hlk (t := .boolean) (z' := (1 : Int32)) (by simp) at_177 (by decide) (by decide) rfl ?_
        rw [eT]
        exact ⟨rfl, N⟩
      · skip
        refine own_callCW X hx hby hZ (st := [(.ref b102)]) [(.double (own_h (own_w v12))), (.double (own_h (own_w v61))), (.double (own_h (own_w v26))), (.double (own_h (own_w v70)))] rfl rfl hown hS hk (hw _ (List.mem_of_getElem? (i := 11) rfl)) (hw _ (List.mem_of_getElem? (i := 12) rfl)) (hw _ (List.mem_of_getElem? (i := 10) rfl)) (hw _ (List.mem_of_getElem? (i := 13) rfl)) (by decide) at_118 (rm3_D l Z a0 hw b102 (own_w v12) (own_w v61) (own_w v26) (own_w v70) 400 400 400 400 .null h102 n0 Zs (own_wb (own_r361 _ _ e12)) (own_wb (own_180 (own_mn _ _ _ (own_r181 _ _ e39) (own_r181 _ _ e52) e61))) (own_wb (own_r361 _ _ e26)) (own_wb (own_180 (own_mx _ _ _ (own_r181 _ _ e39) (own_r181 _ _ e52) e70))) (own_ge (by have := (own_r361 _ _ e12); omega)) (own_le (by have := (own_r361 _ _ e12); omega)) (own_ge (by have := (own_mn _ _ _ (own_r181 _ _ e39) (own_r181 _ _ e52) e61); omega)) (own_le (by have := (own_mn _ _ _ (own_r181 _ _ e39) (own_r181 _ _ e52) e61); omega)) (own_ge (by have := (own_r361 _ _ e26); omega)) (own_le (by have := (own_r361 _ _ e26); omega)) (own_ge (by have := (own_mx _ _ _ (own_r181 _ _ e39) (own_r181 _ _ e52) e70); omega)) (own_le (by have := (own_mx _ _ _ (own_r181 _ _ e39) (own_r181 _ _ e52) e70); omega)) (own_so (own_ord _ _ _ _ e61 e70)) iN i1 i2 E_b102 (by decide) F_west_b102 (by decide) F_south_b102 (by decide) F_east_b102 (by decide) F_north_b102 F_intervals_b102 g_b102) eT pd_3 rfl (by rw [hml]; rfl) (by decide) 1 rfl (by decide) (by decide) (by decide) 121 rfl ?_
        intro T118 L9 v9 vm118 X hS hZ hown hQ
        obtain ⟨h118, eT⟩ : ∃ z, T118.heap = z := ⟨_, rfl⟩
        rw [eT] at hQ
        have lt_b102 := E_b102.lt
        obtain ⟨b118b79b144, b118b79b150, b118b79b164, rfl, N9, Kc, hs_b118b79b144, hs_b118b79b150, hs_b118b79b164, E_b102, F_west_b102, F_south_b102, F_east_b102, F_north_b102, F_intervals_b102, A_b118b79b144, E_b118b79b144, A_b118b79b150, E_b118b79b150, A_b118b79b164, E_b118b79b164⟩ := hQ
        have g_b118b79b144 : n0 ≤ b118b79b144 := Nat.le_trans Zs hs_b118b79b144
        have sz_b118b79b144 : h0.size ≤ b118b79b144 := Nat.le_trans K.1 hs_b118b79b144
        have ne_b102_b118b79b144 : b102 ≠ b118b79b144 := Nat.ne_of_lt (Nat.lt_of_lt_of_le lt_b102 hs_b118b79b144)
        have g_b118b79b150 : n0 ≤ b118b79b150 := Nat.le_trans Zs hs_b118b79b150
        have sz_b118b79b150 : h0.size ≤ b118b79b150 := Nat.le_trans K.1 hs_b118b79b150
        have ne_b102_b118b79b150 : b102 ≠ b118b79b150 := Nat.ne_of_lt (Nat.lt_of_lt_of_le lt_b102 hs_b118b79b150)
        have g_b118b79b164 : n0 ≤ b118b79b164 := Nat.le_trans Zs hs_b118b79b164
        have sz_b118b79b164 : h0.size ≤ b118b79b164 := Nat.le_trans K.1 hs_b118b79b164
        have ne_b102_b118b79b164 : b102 ≠ b118b79b164 := Nat.ne_of_lt (Nat.lt_of_lt_of_le lt_b102 hs_b118b79b164)
        have hk : T118.heap.size ≤ h118.size := by rw [eT]; exact Nat.le_refl _
        have K := K.trans Kc (allS (Or.inr sz_b102) all0)
        have Zs := Nat.le_trans Zs Kc.1
        have N := Fr.app N N9
        show Go p e below _ T118 (mkF m 121 #[.val (.int p1), .val (.int p2), .val (.int p3), .val (.int p4), .val (.int p5), .val (.int p6), .val (.int v12), .val (.int v26), .val (.int v39), .val (.int v52), .val (.int v61), .val (.int v70), .val (.int v85), .val (.int v100), .unset, .unset] [(.ref b102)])
        refine own_astore X hx hby at_121 rfl (l' := #[.val (.int p1), .val (.int p2), .val (.int p3), .val (.int p4), .val (.int p5), .val (.int p6), .val (.int v12), .val (.int v26), .val (.int v39), .val (.int v52), .val (.int v61), .val (.int v70), .val (.int v85), .val (.int v100), .val (.ref b102), .unset]) rfl 123 rfl ?_
        refine own_aload X hx hby (.ref b102) at_123 rfl rfl 125 rfl ?_
        refine own_iload X hx hby v85 at_125 rfl 127 rfl ?_
        refine own_i2d X hx hby (FP.i2d v85) at_127 rfl 128 rfl ?_
        refine own_ldc2D X hx hby hZ (own_h 404) hown (hw _ (List.mem_of_getElem? (i := 58) rfl)) own_k404 at_128 131 rfl ?_
        refine own_ddiv X hx hby (own_h (own_l v85)) at_131 (own_di _ (own_r801 _ _ e85)) (own_nn (own_lb (own_r801 _ _ e85))) 132 rfl ?_
        refine own_iload X hx hby v100 at_132 rfl 134 rfl ?_
        refine own_i2d X hx hby (FP.i2d v100) at_134 rfl 135 rfl ?_
        refine own_ldc2D X hx hby hZ (own_h 404) hown (hw _ (List.mem_of_getElem? (i := 58) rfl)) own_k404 at_135 138 rfl ?_
        refine own_ddiv X hx hby (own_h (own_l v100)) at_138 (own_di _ (own_400 (own_r401 _ _ e100))) (own_nn (own_lb (own_400 (own_r401 _ _ e100)))) 139 rfl ?_
        refine own_callV X hx hby hZ (st := []) [(.double (own_h (own_l v85))), (.double (own_h (own_l v100)))] rfl hown (hw _ (List.mem_of_getElem? (i := 59) rfl)) (hw _ (List.mem_of_getElem? (i := 60) rfl)) (hw _ (List.mem_of_getElem? (i := 62) rfl)) (hw _ (List.mem_of_getElem? (i := 61) rfl)) (hw _ (List.mem_of_getElem? (i := 10) rfl)) (hw _ (List.mem_of_getElem? (i := 63) rfl)) E_b102 (by decide) at_139 (rm8_2 l Z a0 hw b102 (own_l v85) (own_l v100) b118b79b150 (own_w v12) (own_w v26) b118b79b164 760 760 (own_w v61) (own_w v70) b118b79b144 h118 n0 Zs (own_lb (own_r801 _ _ e85)) (own_lb (own_400 (own_r401 _ _ e100))) A_b118b79b144 A_b118b79b150 (own_wb (own_r361 _ _ e12)) (own_wb (own_r361 _ _ e26)) A_b118b79b164 (by decide) (by decide) E_b102 (own_wb (own_180 (own_mn _ _ _ (own_r181 _ _ e39) (own_r181 _ _ e52) e61))) F_south_b102 (own_wb (own_180 (own_mx _ _ _ (own_r181 _ _ e39) (own_r181 _ _ e52) e70))) F_north_b102 F_intervals_b102) eT pd_1 rfl (by rw [hml]; rfl) (by decide) 0 rfl (by decide) (by decide) (by decide) 142 rfl ?_
        intro T139 L9 v9 X hQ
        obtain ⟨rfl, N9, eT⟩ := hQ
        have N := Fr.app N N9
        show Go p e below _ T139 (mkF m 142 #[.val (.int p1), .val (.int p2), .val (.int p3), .val (.int p4), .val (.int p5), .val (.int p6), .val (.int v12), .val (.int v26), .val (.int v39), .val (.int v52), .val (.int v61), .val (.int v70), .val (.int v85), .val (.int v100), .val (.ref b102), .unset] [(.int (f8_2 (own_l v85) (own_l v100) (own_w v12) (own_w v26) 760 760 (own_w v61) (own_w v70)))])
        obtain ⟨v142, e142⟩ : ∃ z : Int32, (f8_2 (own_l v85) (own_l v100) (own_w v12) (own_w v26) 760 760 (own_w v61) (own_w v70)) = z := ⟨_, rfl⟩
        refine own_istore X hx hby at_142 e142 (l' := #[.val (.int p1), .val (.int p2), .val (.int p3), .val (.int p4), .val (.int p5), .val (.int p6), .val (.int v12), .val (.int v26), .val (.int v39), .val (.int v52), .val (.int v61), .val (.int v70), .val (.int v85), .val (.int v100), .val (.ref b102), .val (.int v142)]) rfl 144 rfl ?_
        refine own_iload X hx hby v142 at_144 rfl 146 rfl ?_
        refine own_iconst X hx hby (2 : Int32) at_146 rfl 147 rfl ?_
        refine own_iload X hx hby v12 at_147 rfl 149 rfl ?_
        refine own_imul X hx hby at_149 150 rfl ?_
        refine own_iconst X hx hby (2 : Int32) at_150 rfl 151 rfl ?_
        refine own_iload X hx hby v61 at_151 rfl 153 rfl ?_
        refine own_imul X hx hby at_153 154 rfl ?_
        refine own_iconst X hx hby (2 : Int32) at_154 rfl 155 rfl ?_
        refine own_iload X hx hby v26 at_155 rfl 157 rfl ?_
        refine own_imul X hx hby at_157 158 rfl ?_
        refine own_iconst X hx hby (2 : Int32) at_158 rfl 159 rfl ?_
        refine own_iload X hx hby v70 at_159 rfl 161 rfl ?_
        refine own_imul X hx hby at_161 162 rfl ?_
        refine own_iload X hx hby v85 at_162 rfl 164 rfl ?_
        refine own_iload X hx hby v100 at_164 rfl 166 rfl ?_
        refine own_callS X hx hby hZ (st := [(.int v142)]) [(.int ((2 : Int32) * v12)), (.int ((2 : Int32) * v61)), (.int ((2 : Int32) * v26)), (.int ((2 : Int32) * v70)), (.int v85), (.int v100)] rfl hown (hw _ (List.mem_of_getElem? (i := 64) rfl)) (hw _ (List.mem_of_getElem? (i := 65) rfl)) (hw _ (List.mem_of_getElem? (i := 66) rfl)) (hw _ (List.mem_of_getElem? (i := 67) rfl)) (by decide) at_166 (rm9 l Z a0 hw ((2 : Int32) * v12) ((2 : Int32) * v61) ((2 : Int32) * v26) ((2 : Int32) * v70) v85 v100 h118 n0 Zs ) eT pd_5 rfl (by rw [hml]; rfl) (by decide) 1 rfl (by decide) (by decide) (by decide) 169 rfl ?_
        intro T166 L9 v9 X hQ
        obtain ⟨rfl, N9, eT⟩ := hQ
        have N := Fr.app N N9
        show Go p e below _ T166 (mkF m 169 #[.val (.int p1), .val (.int p2), .val (.int p3), .val (.int p4), .val (.int p5), .val (.int p6), .val (.int v12), .val (.int v26), .val (.int v39), .val (.int v52), .val (.int v61), .val (.int v70), .val (.int v85), .val (.int v100), .val (.ref b102), .val (.int v142)] [(.int (f9 ((2 : Int32) * v12) ((2 : Int32) * v61) ((2 : Int32) * v26) ((2 : Int32) * v70) v85 v100)), (.int v142)])
        have c169 : v142 = (f9 ((2 : Int32) * v12) ((2 : Int32) * v61) ((2 : Int32) * v26) ((2 : Int32) * v70) v85 v100) := by rw [← e142]; exact own_lawD _ _ _ _ _ _ (own_r361 _ _ e12) (own_180 (own_mn _ _ _ (own_r181 _ _ e39) (own_r181 _ _ e52) e61)) (own_r361 _ _ e26) (own_180 (own_mx _ _ _ (own_r181 _ _ e39) (own_r181 _ _ e52) e70)) (own_r801 _ _ e85) (own_400 (own_r401 _ _ e100)) iN i1 i2
        refine own_icmp_ne X hx hby at_169 176 172 (by decide) rfl (fun q => absurd c169 q) (fun _ => ?_)
        refine own_iconst X hx hby (1 : Int32) at_172 rfl 173 rfl ?_
        refine own_goto X hx hby at_173 177 (by decide) ?_
        refine own_retNW X hx hby hS (by rw [eT]; exact hk) hret hlk (t := .boolean) (z' := (1 : Int32)) (by simp) at_177 (by decide) (by decide) rfl ?_
        rw [eT]
        exact ⟨rfl, N⟩
    · by_cases i2 : (own_w v26) = 760
      · skip
        refine own_callCW X hx hby hZ (st := [(.ref b102)]) [(.double (own_h (own_w v12))), (.double (own_h (own_w v61))), (.double (own_h (own_w v26))), (.double (own_h (own_w v70)))] rfl rfl hown hS hk (hw _ (List.mem_of_getElem? (i := 11) rfl)) (hw _ (List.mem_of_getElem? (i := 12) rfl)) (hw _ (List.mem_of_getElem? (i := 10) rfl)) (hw _ (List.mem_of_getElem? (i := 13) rfl)) (by decide) at_118 (rm3_C l Z a0 hw b102 (own_w v12) (own_w v61) (own_w v26) (own_w v70) 400 400 400 400 .null h102 n0 Zs (own_wb (own_r361 _ _ e12)) (own_wb (own_180 (own_mn _ _ _ (own_r181 _ _ e39) (own_r181 _ _ e52) e61))) (own_wb (own_r361 _ _ e26)) (own_wb (own_180 (own_mx _ _ _ (own_r181 _ _ e39) (own_r181 _ _ e52) e70))) (own_ge (by have := (own_r361 _ _ e12); omega)) (own_le (by have := (own_r361 _ _ e12); omega)) (own_ge (by have := (own_mn _ _ _ (own_r181 _ _ e39) (own_r181 _ _ e52) e61); omega)) (own_le (by have := (own_mn _ _ _ (own_r181 _ _ e39) (own_r181 _ _ e52) e61); omega)) (own_ge (by have := (own_r361 _ _ e26); omega)) (own_le (by have := (own_r361 _ _ e26); omega)) (own_ge (by have := (own_mx _ _ _ (own_r181 _ _ e39) (own_r181 _ _ e52) e70); omega)) (own_le (by have := (own_mx _ _ _ (own_r181 _ _ e39) (own_r181 _ _ e52) e70); omega)) (own_so (own_ord _ _ _ _ e61 e70)) iN i1 i2 E_b102 (by decide) F_west_b102 (by decide) F_south_b102 (by decide) F_east_b102 (by decide) F_north_b102 F_intervals_b102 g_b102) eT pd_3 rfl (by rw [hml]; rfl) (by decide) 1 rfl (by decide) (by decide) (by decide) 121 rfl ?_
        intro T118 L9 v9 vm118 X hS hZ hown hQ
        obtain ⟨h118, eT⟩ : ∃ z, T118.heap = z := ⟨_, rfl⟩
        rw [eT] at hQ
        have lt_b102 := E_b102.lt
        obtain ⟨b118b79b95, b118b79b101, b118b79b115, rfl, N9, Kc, hs_b118b79b95, hs_b118b79b101, hs_b118b79b115, E_b102, F_west_b102, F_south_b102, F_east_b102, F_north_b102, F_intervals_b102, A_b118b79b95, E_b118b79b95, A_b118b79b101, E_b118b79b101, A_b118b79b115, E_b118b79b115⟩ := hQ
        have g_b118b79b95 : n0 ≤ b118b79b95 := Nat.le_trans Zs hs_b118b79b95
        have sz_b118b79b95 : h0.size ≤ b118b79b95 := Nat.le_trans K.1 hs_b118b79b95
        have ne_b102_b118b79b95 : b102 ≠ b118b79b95 := Nat.ne_of_lt (Nat.lt_of_lt_of_le lt_b102 hs_b118b79b95)
        have g_b118b79b101 : n0 ≤ b118b79b101 := Nat.le_trans Zs hs_b118b79b101
        have sz_b118b79b101 : h0.size ≤ b118b79b101 := Nat.le_trans K.1 hs_b118b79b101
        have ne_b102_b118b79b101 : b102 ≠ b118b79b101 := Nat.ne_of_lt (Nat.lt_of_lt_of_le lt_b102 hs_b118b79b101)
        have g_b118b79b115 : n0 ≤ b118b79b115 := Nat.le_trans Zs hs_b118b79b115
        have sz_b118b79b115 : h0.size ≤ b118b79b115 := Nat.le_trans K.1 hs_b118b79b115
        have ne_b102_b118b79b115 : b102 ≠ b118b79b115 := Nat.ne_of_lt (Nat.lt_of_lt_of_le lt_b102 hs_b118b79b115)
        have hk : T118.heap.size ≤ h118.size := by rw [eT]; exact Nat.le_refl _
        have K := K.trans Kc (allS (Or.inr sz_b102) all0)
        have Zs := Nat.le_trans Zs Kc.1
        have N := Fr.app N N9
        show Go p e below _ T118 (mkF m 121 #[.val (.int p1), .val (.int p2), .val (.int p3), .val (.int p4), .val (.int p5), .val (.int p6), .val (.int v12), .val (.int v26), .val (.int v39), .val (.int v52), .val (.int v61), .val (.int v70), .val (.int v85), .val (.int v100), .unset, .unset] [(.ref b102)])
        refine own_astore X hx hby at_121 rfl (l' := #[.val (.int p1), .val (.int p2), .val (.int p3), .val (.int p4), .val (.int p5), .val (.int p6), .val (.int v12), .val (.int v26), .val (.int v39), .val (.int v52), .val (.int v61), .val (.int v70), .val (.int v85), .val (.int v100), .val (.ref b102), .unset]) rfl 123 rfl ?_
        refine own_aload X hx hby (.ref b102) at_123 rfl rfl 125 rfl ?_
        refine own_iload X hx hby v85 at_125 rfl 127 rfl ?_
        refine own_i2d X hx hby (FP.i2d v85) at_127 rfl 128 rfl ?_
        refine own_ldc2D X hx hby hZ (own_h 404) hown (hw _ (List.mem_of_getElem? (i := 58) rfl)) own_k404 at_128 131 rfl ?_
        refine own_ddiv X hx hby (own_h (own_l v85)) at_131 (own_di _ (own_r801 _ _ e85)) (own_nn (own_lb (own_r801 _ _ e85))) 132 rfl ?_
        refine own_iload X hx hby v100 at_132 rfl 134 rfl ?_
        refine own_i2d X hx hby (FP.i2d v100) at_134 rfl 135 rfl ?_
        refine own_ldc2D X hx hby hZ (own_h 404) hown (hw _ (List.mem_of_getElem? (i := 58) rfl)) own_k404 at_135 138 rfl ?_
        refine own_ddiv X hx hby (own_h (own_l v100)) at_138 (own_di _ (own_400 (own_r401 _ _ e100))) (own_nn (own_lb (own_400 (own_r401 _ _ e100)))) 139 rfl ?_
        refine own_callV X hx hby hZ (st := []) [(.double (own_h (own_l v85))), (.double (own_h (own_l v100)))] rfl hown (hw _ (List.mem_of_getElem? (i := 59) rfl)) (hw _ (List.mem_of_getElem? (i := 60) rfl)) (hw _ (List.mem_of_getElem? (i := 62) rfl)) (hw _ (List.mem_of_getElem? (i := 61) rfl)) (hw _ (List.mem_of_getElem? (i := 10) rfl)) (hw _ (List.mem_of_getElem? (i := 63) rfl)) E_b102 (by decide) at_139 (rm8_2 l Z a0 hw b102 (own_l v85) (own_l v100) b118b79b101 (own_w v12) (own_w v26) b118b79b115 40 40 (own_w v61) (own_w v70) b118b79b95 h118 n0 Zs (own_lb (own_r801 _ _ e85)) (own_lb (own_400 (own_r401 _ _ e100))) A_b118b79b95 A_b118b79b101 (own_wb (own_r361 _ _ e12)) (own_wb (own_r361 _ _ e26)) A_b118b79b115 (by decide) (by decide) E_b102 (own_wb (own_180 (own_mn _ _ _ (own_r181 _ _ e39) (own_r181 _ _ e52) e61))) F_south_b102 (own_wb (own_180 (own_mx _ _ _ (own_r181 _ _ e39) (own_r181 _ _ e52) e70))) F_north_b102 F_intervals_b102) eT pd_1 rfl (by rw [hml]; rfl) (by decide) 0 rfl (by decide) (by decide) (by decide) 142 rfl ?_
        intro T139 L9 v9 X hQ
        obtain ⟨rfl, N9, eT⟩ := hQ
        have N := Fr.app N N9
        show Go p e below _ T139 (mkF m 142 #[.val (.int p1), .val (.int p2), .val (.int p3), .val (.int p4), .val (.int p5), .val (.int p6), .val (.int v12), .val (.int v26), .val (.int v39), .val (.int v52), .val (.int v61), .val (.int v70), .val (.int v85), .val (.int v100), .val (.ref b102), .unset] [(.int (f8_2 (own_l v85) (own_l v100) (own_w v12) (own_w v26) 40 40 (own_w v61) (own_w v70)))])
        obtain ⟨v142, e142⟩ : ∃ z : Int32, (f8_2 (own_l v85) (own_l v100) (own_w v12) (own_w v26) 40 40 (own_w v61) (own_w v70)) = z := ⟨_, rfl⟩
        refine own_istore X hx hby at_142 e142 (l' := #[.val (.int p1), .val (.int p2), .val (.int p3), .val (.int p4), .val (.int p5), .val (.int p6), .val (.int v12), .val (.int v26), .val (.int v39), .val (.int v52), .val (.int v61), .val (.int v70), .val (.int v85), .val (.int v100), .val (.ref b102), .val (.int v142)]) rfl 144 rfl ?_
        refine own_iload X hx hby v142 at_144 rfl 146 rfl ?_
        refine own_iconst X hx hby (2 : Int32) at_146 rfl 147 rfl ?_
        refine own_iload X hx hby v12 at_147 rfl 149 rfl ?_
        refine own_imul X hx hby at_149 150 rfl ?_
        refine own_iconst X hx hby (2 : Int32) at_150 rfl 151 rfl ?_
        refine own_iload X hx hby v61 at_151 rfl 153 rfl ?_
        refine own_imul X hx hby at_153 154 rfl ?_
        refine own_iconst X hx hby (2 : Int32) at_154 rfl 155 rfl ?_
        refine own_iload X hx hby v26 at_155 rfl 157 rfl ?_
        refine own_imul X hx hby at_157 158 rfl ?_
        refine own_iconst X hx hby (2 : Int32) at_158 rfl 159 rfl ?_
        refine own_iload X hx hby v70 at_159 rfl 161 rfl ?_
        refine own_imul X hx hby at_161 162 rfl ?_
        refine own_iload X hx hby v85 at_162 rfl 164 rfl ?_
        refine own_iload X hx hby v100 at_164 rfl 166 rfl ?_
        refine own_callS X hx hby hZ (st := [(.int v142)]) [(.int ((2 : Int32) * v12)), (.int ((2 : Int32) * v61)), (.int ((2 : Int32) * v26)), (.int ((2 : Int32) * v70)), (.int v85), (.int v100)] rfl hown (hw _ (List.mem_of_getElem? (i := 64) rfl)) (hw _ (List.mem_of_getElem? (i := 65) rfl)) (hw _ (List.mem_of_getElem? (i := 66) rfl)) (hw _ (List.mem_of_getElem? (i := 67) rfl)) (by decide) at_166 (rm9 l Z a0 hw ((2 : Int32) * v12) ((2 : Int32) * v61) ((2 : Int32) * v26) ((2 : Int32) * v70) v85 v100 h118 n0 Zs ) eT pd_5 rfl (by rw [hml]; rfl) (by decide) 1 rfl (by decide) (by decide) (by decide) 169 rfl ?_
        intro T166 L9 v9 X hQ
        obtain ⟨rfl, N9, eT⟩ := hQ
        have N := Fr.app N N9
        show Go p e below _ T166 (mkF m 169 #[.val (.int p1), .val (.int p2), .val (.int p3), .val (.int p4), .val (.int p5), .val (.int p6), .val (.int v12), .val (.int v26), .val (.int v39), .val (.int v52), .val (.int v61), .val (.int v70), .val (.int v85), .val (.int v100), .val (.ref b102), .val (.int v142)] [(.int (f9 ((2 : Int32) * v12) ((2 : Int32) * v61) ((2 : Int32) * v26) ((2 : Int32) * v70) v85 v100)), (.int v142)])
        have c169 : v142 = (f9 ((2 : Int32) * v12) ((2 : Int32) * v61) ((2 : Int32) * v26) ((2 : Int32) * v70) v85 v100) := by rw [← e142]; exact own_lawC _ _ _ _ _ _ (own_r361 _ _ e12) (own_180 (own_mn _ _ _ (own_r181 _ _ e39) (own_r181 _ _ e52) e61)) (own_r361 _ _ e26) (own_180 (own_mx _ _ _ (own_r181 _ _ e39) (own_r181 _ _ e52) e70)) (own_r801 _ _ e85) (own_400 (own_r401 _ _ e100)) iN i1 i2
        refine own_icmp_ne X hx hby at_169 176 172 (by decide) rfl (fun q => absurd c169 q) (fun _ => ?_)
        refine own_iconst X hx hby (1 : Int32) at_172 rfl 173 rfl ?_
        refine own_goto X hx hby at_173 177 (by decide) ?_
        refine own_retNW X hx hby hS (by rw [eT]; exact hk) hret hlk (t := .boolean) (z' := (1 : Int32)) (by simp) at_177 (by decide) (by decide) rfl ?_
        rw [eT]
        exact ⟨rfl, N⟩
      · skip
        refine own_callCW X hx hby hZ (st := [(.ref b102)]) [(.double (own_h (own_w v12))), (.double (own_h (own_w v61))), (.double (own_h (own_w v26))), (.double (own_h (own_w v70)))] rfl rfl hown hS hk (hw _ (List.mem_of_getElem? (i := 11) rfl)) (hw _ (List.mem_of_getElem? (i := 12) rfl)) (hw _ (List.mem_of_getElem? (i := 10) rfl)) (hw _ (List.mem_of_getElem? (i := 13) rfl)) (by decide) at_118 (rm3_E l Z a0 hw b102 (own_w v12) (own_w v61) (own_w v26) (own_w v70) 400 400 400 400 .null h102 n0 Zs (own_wb (own_r361 _ _ e12)) (own_wb (own_180 (own_mn _ _ _ (own_r181 _ _ e39) (own_r181 _ _ e52) e61))) (own_wb (own_r361 _ _ e26)) (own_wb (own_180 (own_mx _ _ _ (own_r181 _ _ e39) (own_r181 _ _ e52) e70))) (own_ge (by have := (own_r361 _ _ e12); omega)) (own_le (by have := (own_r361 _ _ e12); omega)) (own_ge (by have := (own_mn _ _ _ (own_r181 _ _ e39) (own_r181 _ _ e52) e61); omega)) (own_le (by have := (own_mn _ _ _ (own_r181 _ _ e39) (own_r181 _ _ e52) e61); omega)) (own_ge (by have := (own_r361 _ _ e26); omega)) (own_le (by have := (own_r361 _ _ e26); omega)) (own_ge (by have := (own_mx _ _ _ (own_r181 _ _ e39) (own_r181 _ _ e52) e70); omega)) (own_le (by have := (own_mx _ _ _ (own_r181 _ _ e39) (own_r181 _ _ e52) e70); omega)) (own_so (own_ord _ _ _ _ e61 e70)) iN i1 i2 E_b102 (by decide) F_west_b102 (by decide) F_south_b102 (by decide) F_east_b102 (by decide) F_north_b102 F_intervals_b102 g_b102) eT pd_3 rfl (by rw [hml]; rfl) (by decide) 1 rfl (by decide) (by decide) (by decide) 121 rfl ?_
        intro T118 L9 v9 vm118 X hS hZ hown hQ
        obtain ⟨h118, eT⟩ : ∃ z, T118.heap = z := ⟨_, rfl⟩
        rw [eT] at hQ
        have lt_b102 := E_b102.lt
        obtain ⟨b118b79b185, b118b79b191, rfl, N9, Kc, hs_b118b79b185, hs_b118b79b191, E_b102, F_west_b102, F_south_b102, F_east_b102, F_north_b102, F_intervals_b102, A_b118b79b185, E_b118b79b185, A_b118b79b191, E_b118b79b191⟩ := hQ
        have g_b118b79b185 : n0 ≤ b118b79b185 := Nat.le_trans Zs hs_b118b79b185
        have sz_b118b79b185 : h0.size ≤ b118b79b185 := Nat.le_trans K.1 hs_b118b79b185
        have ne_b102_b118b79b185 : b102 ≠ b118b79b185 := Nat.ne_of_lt (Nat.lt_of_lt_of_le lt_b102 hs_b118b79b185)
        have g_b118b79b191 : n0 ≤ b118b79b191 := Nat.le_trans Zs hs_b118b79b191
        have sz_b118b79b191 : h0.size ≤ b118b79b191 := Nat.le_trans K.1 hs_b118b79b191
        have ne_b102_b118b79b191 : b102 ≠ b118b79b191 := Nat.ne_of_lt (Nat.lt_of_lt_of_le lt_b102 hs_b118b79b191)
        have hk : T118.heap.size ≤ h118.size := by rw [eT]; exact Nat.le_refl _
        have K := K.trans Kc (allS (Or.inr sz_b102) all0)
        have Zs := Nat.le_trans Zs Kc.1
        have N := Fr.app N N9
        show Go p e below _ T118 (mkF m 121 #[.val (.int p1), .val (.int p2), .val (.int p3), .val (.int p4), .val (.int p5), .val (.int p6), .val (.int v12), .val (.int v26), .val (.int v39), .val (.int v52), .val (.int v61), .val (.int v70), .val (.int v85), .val (.int v100), .unset, .unset] [(.ref b102)])
        refine own_astore X hx hby at_121 rfl (l' := #[.val (.int p1), .val (.int p2), .val (.int p3), .val (.int p4), .val (.int p5), .val (.int p6), .val (.int v12), .val (.int v26), .val (.int v39), .val (.int v52), .val (.int v61), .val (.int v70), .val (.int v85), .val (.int v100), .val (.ref b102), .unset]) rfl 123 rfl ?_
        refine own_aload X hx hby (.ref b102) at_123 rfl rfl 125 rfl ?_
        refine own_iload X hx hby v85 at_125 rfl 127 rfl ?_
        refine own_i2d X hx hby (FP.i2d v85) at_127 rfl 128 rfl ?_
        refine own_ldc2D X hx hby hZ (own_h 404) hown (hw _ (List.mem_of_getElem? (i := 58) rfl)) own_k404 at_128 131 rfl ?_
        refine own_ddiv X hx hby (own_h (own_l v85)) at_131 (own_di _ (own_r801 _ _ e85)) (own_nn (own_lb (own_r801 _ _ e85))) 132 rfl ?_
        refine own_iload X hx hby v100 at_132 rfl 134 rfl ?_
        refine own_i2d X hx hby (FP.i2d v100) at_134 rfl 135 rfl ?_
        refine own_ldc2D X hx hby hZ (own_h 404) hown (hw _ (List.mem_of_getElem? (i := 58) rfl)) own_k404 at_135 138 rfl ?_
        refine own_ddiv X hx hby (own_h (own_l v100)) at_138 (own_di _ (own_400 (own_r401 _ _ e100))) (own_nn (own_lb (own_400 (own_r401 _ _ e100)))) 139 rfl ?_
        refine own_callV X hx hby hZ (st := []) [(.double (own_h (own_l v85))), (.double (own_h (own_l v100)))] rfl hown (hw _ (List.mem_of_getElem? (i := 59) rfl)) (hw _ (List.mem_of_getElem? (i := 60) rfl)) (hw _ (List.mem_of_getElem? (i := 62) rfl)) (hw _ (List.mem_of_getElem? (i := 61) rfl)) (hw _ (List.mem_of_getElem? (i := 10) rfl)) (hw _ (List.mem_of_getElem? (i := 63) rfl)) E_b102 (by decide) at_139 (rm8_1 l Z a0 hw b102 (own_l v85) (own_l v100) b118b79b191 (own_w v12) (own_w v26) (own_w v61) (own_w v70) b118b79b185 h118 n0 Zs (own_lb (own_r801 _ _ e85)) (own_lb (own_400 (own_r401 _ _ e100))) A_b118b79b185 A_b118b79b191 (own_wb (own_r361 _ _ e12)) (own_wb (own_r361 _ _ e26)) E_b102 (own_wb (own_180 (own_mn _ _ _ (own_r181 _ _ e39) (own_r181 _ _ e52) e61))) F_south_b102 (own_wb (own_180 (own_mx _ _ _ (own_r181 _ _ e39) (own_r181 _ _ e52) e70))) F_north_b102 F_intervals_b102) eT pd_1 rfl (by rw [hml]; rfl) (by decide) 0 rfl (by decide) (by decide) (by decide) 142 rfl ?_
        intro T139 L9 v9 X hQ
        obtain ⟨rfl, N9, eT⟩ := hQ
        have N := Fr.app N N9
        show Go p e below _ T139 (mkF m 142 #[.val (.int p1), .val (.int p2), .val (.int p3), .val (.int p4), .val (.int p5), .val (.int p6), .val (.int v12), .val (.int v26), .val (.int v39), .val (.int v52), .val (.int v61), .val (.int v70), .val (.int v85), .val (.int v100), .val (.ref b102), .unset] [(.int (f8_1 (own_l v85) (own_l v100) (own_w v12) (own_w v26) (own_w v61) (own_w v70)))])
        obtain ⟨v142, e142⟩ : ∃ z : Int32, (f8_1 (own_l v85) (own_l v100) (own_w v12) (own_w v26) (own_w v61) (own_w v70)) = z := ⟨_, rfl⟩
        refine own_istore X hx hby at_142 e142 (l' := #[.val (.int p1), .val (.int p2), .val (.int p3), .val (.int p4), .val (.int p5), .val (.int p6), .val (.int v12), .val (.int v26), .val (.int v39), .val (.int v52), .val (.int v61), .val (.int v70), .val (.int v85), .val (.int v100), .val (.ref b102), .val (.int v142)]) rfl 144 rfl ?_
        refine own_iload X hx hby v142 at_144 rfl 146 rfl ?_
        refine own_iconst X hx hby (2 : Int32) at_146 rfl 147 rfl ?_
        refine own_iload X hx hby v12 at_147 rfl 149 rfl ?_
        refine own_imul X hx hby at_149 150 rfl ?_
        refine own_iconst X hx hby (2 : Int32) at_150 rfl 151 rfl ?_
        refine own_iload X hx hby v61 at_151 rfl 153 rfl ?_
        refine own_imul X hx hby at_153 154 rfl ?_
        refine own_iconst X hx hby (2 : Int32) at_154 rfl 155 rfl ?_
        refine own_iload X hx hby v26 at_155 rfl 157 rfl ?_
        refine own_imul X hx hby at_157 158 rfl ?_
        refine own_iconst X hx hby (2 : Int32) at_158 rfl 159 rfl ?_
        refine own_iload X hx hby v70 at_159 rfl 161 rfl ?_
        refine own_imul X hx hby at_161 162 rfl ?_
        refine own_iload X hx hby v85 at_162 rfl 164 rfl ?_
        refine own_iload X hx hby v100 at_164 rfl 166 rfl ?_
        refine own_callS X hx hby hZ (st := [(.int v142)]) [(.int ((2 : Int32) * v12)), (.int ((2 : Int32) * v61)), (.int ((2 : Int32) * v26)), (.int ((2 : Int32) * v70)), (.int v85), (.int v100)] rfl hown (hw _ (List.mem_of_getElem? (i := 64) rfl)) (hw _ (List.mem_of_getElem? (i := 65) rfl)) (hw _ (List.mem_of_getElem? (i := 66) rfl)) (hw _ (List.mem_of_getElem? (i := 67) rfl)) (by decide) at_166 (rm9 l Z a0 hw ((2 : Int32) * v12) ((2 : Int32) * v61) ((2 : Int32) * v26) ((2 : Int32) * v70) v85 v100 h118 n0 Zs ) eT pd_5 rfl (by rw [hml]; rfl) (by decide) 1 rfl (by decide) (by decide) (by decide) 169 rfl ?_
        intro T166 L9 v9 X hQ
        obtain ⟨rfl, N9, eT⟩ := hQ
        have N := Fr.app N N9
        show Go p e below _ T166 (mkF m 169 #[.val (.int p1), .val (.int p2), .val (.int p3), .val (.int p4), .val (.int p5), .val (.int p6), .val (.int v12), .val (.int v26), .val (.int v39), .val (.int v52), .val (.int v61), .val (.int v70), .val (.int v85), .val (.int v100), .val (.ref b102), .val (.int v142)] [(.int (f9 ((2 : Int32) * v12) ((2 : Int32) * v61) ((2 : Int32) * v26) ((2 : Int32) * v70) v85 v100)), (.int v142)])
        have c169 : v142 = (f9 ((2 : Int32) * v12) ((2 : Int32) * v61) ((2 : Int32) * v26) ((2 : Int32) * v70) v85 v100) := by rw [← e142]; exact own_lawE _ _ _ _ _ _ (own_r361 _ _ e12) (own_180 (own_mn _ _ _ (own_r181 _ _ e39) (own_r181 _ _ e52) e61)) (own_r361 _ _ e26) (own_180 (own_mx _ _ _ (own_r181 _ _ e39) (own_r181 _ _ e52) e70)) (own_r801 _ _ e85) (own_400 (own_r401 _ _ e100)) iN i1 i2
        refine own_icmp_ne X hx hby at_169 176 172 (by decide) rfl (fun q => absurd c169 q) (fun _ => ?_)
        refine own_iconst X hx hby (1 : Int32) at_172 rfl 173 rfl ?_
        refine own_goto X hx hby at_173 177 (by decide) ?_
        refine own_retNW X hx hby hS (by rw [eT]; exact hk) hret hlk (t := .boolean) (z' := (1 : Int32)) (by simp) at_177 (by decide) (by decide) rfl ?_
        rw [eT]
        exact ⟨rfl, N⟩
set_option maxRecDepth 65536 in
set_option maxHeartbeats 40000000 in
theorem comes_1 {Post : Tables → Env → Array Value → State → Outcome → State → Prop} (hpost : ∀ tb e args s v u, (limb_1_1.after args s (.returned v) u = true ∧ limb_1_2.after args s (.returned v) u = true ∧ True) → ReturnedEndW s (.returned v) u (Jvm.fieldLocs frame_1_writes args s ++ Jvm.arrayLocs frame_1_arrays args s ++ Jvm.staticLocs frame_1_statics s) 24 4224 → Post tb e args s (.returned v) u) :
    ArmFor flags0 classFile x code maxLocals ret World_1 tables_1 room_1 Calls_1 rest_1 Pre_1 Post := by
  intro l hfl _ _ p e ha hc hk s m args below hf hA hF happ hP
  obtain ⟨hcalls, hrest, hpre⟩ := hP
  obtain ⟨-, -, -, hnamed, -, -, -, hat⟩ := (Spec.applies_iff hf).mp happ
  obtain ⟨hg, hn⟩ := and_e (Cond.before_iff.mp (show (Jvm.Cond.and given_1 narrow_1).before args s = true from hpre))
  obtain ⟨gg1, gg2⟩ := and_e hg
  obtain ⟨gg3, gg4⟩ := and_e gg2
  obtain ⟨gg5, gg6⟩ := and_e gg4
  obtain ⟨gg7, gg8⟩ := and_e gg6
  obtain ⟨gg9, gg10⟩ := and_e gg8
  obtain ⟨gg11, gg12⟩ := and_e gg10
  obtain ⟨w0, w1, w2, w3, w4, w5, rfl⟩ : ∃ w0 w1 w2 w3 w4 w5 : Value, args = #[w0, w1, w2, w3, w4, w5] := by
    have hs : args.size = 6 := by simpa [Cond.value, given_1] using gg1
    obtain ⟨L⟩ := args
    match L, hs with
    | [w0, w1, w2, w3, w4, w5], _ => exact ⟨w0, w1, w2, w3, w4, w5, rfl⟩
  have hw := fun d (hd : d ∈ tables_1) => atoms_spec (ws := Jvm.Cond.code x code maxLocals ret :: tables_1) hat d (List.mem_cons_of_mem _ hd)
  have hfit : Fit s := fun {y c} hc i hi => by
    obtain ⟨ha, rfl⟩ := Array.getElem?_eq_some_iff.mp hc
    have q := List.all_eq_true.mp ((Array.all_eq_true_iff_forall_mem.mp hF) _ (Array.getElem_mem ha)) i (List.mem_range.mpr hi)
    simpa [Array.getElem?_eq_getElem hi] using q
  obtain ⟨i0, ei0⟩ := is_v gg3
  obtain rfl : w0 = (.int i0) := Option.some.inj ei0
  obtain ⟨i1, ei1⟩ := is_v gg5
  obtain rfl : w1 = (.int i1) := Option.some.inj ei1
  obtain ⟨i2, ei2⟩ := is_v gg7
  obtain rfl : w2 = (.int i2) := Option.some.inj ei2
  obtain ⟨i3, ei3⟩ := is_v gg9
  obtain rfl : w3 = (.int i3) := Option.some.inj ei3
  obtain ⟨i4, ei4⟩ := is_v gg11
  obtain rfl : w4 = (.int i4) := Option.some.inj ei4
  obtain ⟨i5, ei5⟩ := is_v gg12
  obtain rfl : w5 = (.int i5) := Option.some.inj ei5
  obtain ⟨n, o, h1, h2, h3, _, L, rfl, ⟨rfl, N⟩, hq⟩ := rm0 l s _ hw i0 i1 i2 i3 i4 i5  s.heap s.heap.size (Nat.le_refl _)  tables_1 p e ha hc hk s m _ below hf ((Spec.applies_iff_loose hf).mp happ).1 ⟨rfl, State.Warmed39.refl s, rfl⟩ trivial
  refine ⟨n, _, h1, h2, h3, hpost _ _ _ _ _ _ ⟨Cond.after_iff.mpr rfl, Cond.after_iff.mpr (eq_i res_at (Term.int_eval (1)) rfl), trivial⟩ ⟨hq.1, hq.2.1, hq.2.2.1, (hq.2.2.2.sift fun y hy => Or.inr (N y hy)).mono (by decide) (by decide)⟩⟩
theorem main_1_1 : Claimed_1_1 := comes_1 fun _ _ _ _ _ _ h hF => ⟨h.1, hF⟩
theorem main_1_2 : Claimed_1_2 := comes_1 fun _ _ _ _ _ _ h hF => ⟨h.2.1, hF⟩
end Jvm.Pilot.@@N@@
namespace Jvm.Pilot.@@N@@
open Jvm Jvm.ClassFile Sem Op Lib Jvm.Free Jvm.Stand Jvm.Pilot.@@N@@.Jvm.D
/-! MADE BY PROGRAM (witnessworld.py) out of the Statement's table words and the real class files: 16 classes; the members and pool entries that the words name. The judged class is class 1, her method 1. -/
namespace start1
open Jvm.ClassFile
def u (s : String) : CpInfo := .utf8 (stringToUtf16 s)
/-- a pool by its gaps: so many unusable entries, then the entry; so many at the end -/
def gap : Nat → List CpInfo → List CpInfo
  | 0, r => r
  | n + 1, r => .unusable :: gap n r
def poolList (es : List (Nat × CpInfo)) (last : Nat) : List CpInfo := es.foldr (fun e r => gap e.1 (e.2 :: r)) (gap last [])
def pool (es : List (Nat × CpInfo)) (last : Nat) : Array CpInfo := ⟨poolList es last⟩
def fileOf (pool : Array CpInfo) (this : Nat) (attrs : Array Attribute := #[]) (ms : Array MethodInfo := #[]) (fl : Nat := 33) (sup : Nat := 0) (ifs : Array Nat := #[]) (fds : Array FieldInfo := #[]) : ClassFile where
  minorVersion := 0
  majorVersion := 65
  constantPool := pool
  accessFlags := fl
  thisClass := this
  superClass := sup
  interfaces := ifs
  fields := fds
  methods := ms
  attributes := attrs
def plain (name : String) (sup : Option ClassId) : Class where
  name := name
  kind := .ordinary
  loader := none
  accessFlags := 33
  super := sup
  interfaces := #[]
  cf := none
  fields := #[]
  methods := #[]
  instanceTypes := #[]
  staticTypes := #[]
  resolved := #[]
  callSites := []
  init := .initialized
  statics := none
  mirror := none

def pool0 : Array CpInfo := pool [(5, u "<init>"), (0, u "()V"), (1, .class_ 10), (1, u "java/lang/Object")] 113

def k0c0 : Code := { maxStack := 0, maxLocals := 1, code := object_method_1_code, exceptionTable := #[], attributes := #[] }
def k0m0 : Method := { name := "<init>", desc := "()V", sig := { parameters := [], returnType := none }, accessFlags := 1, code := some k0c0 }
/-- java/lang/Object -/
def k0 : Class := { plain "java/lang/Object" none with
  accessFlags := 33
  interfaces := #[]
  cf := some (fileOf pool0 8 #[] #[{ accessFlags := 1, nameIndex := 5, descriptorIndex := 6, attributes := #[] }] 33 0 #[] #[])
  fields := #[]
  methods := #[k0m0]
  instanceTypes := #[]
  staticTypes := #[]
  resolved := Array.replicate 124 none
  statics := none }

def pool1 : Array CpInfo := pool [(2, .class_ 4), (1, u "java/lang/Object"), (0, u "<init>"), (0, u "()V"), (0, .integer 2147483647), (0, .methodref 9 10), (0, .class_ 11), (0, .nameAndType 12 13), (0, u "java/lang/Math"), (0, u "min"), (0, u "(II)I"), (0, .methodref 9 15), (0, .nameAndType 16 13), (0, u "max"), (0, .class_ 18), (0, u "com/example/kvadtree/kvadtree/Box"), (0, .methodref 17 20), (0, .nameAndType 5 21), (0, u "(DDDD)V"), (0, .double 4611686018427387904), (1, .methodref 17 25), (0, .nameAndType 26 27), (0, u "contains"), (0, u "(DD)Z"), (0, .methodref 29 30), (0, .class_ 31), (0, .nameAndType 32 33), (0, u "com/example/kvadtree/kvadtree/BoxContainsPinLaw"), (0, u "expected"), (0, u "(IIIIII)Z"), (2, u "law")] 3

def k1m0 : Method := { name := "<init>", desc := "()V", sig := { parameters := [], returnType := none }, accessFlags := 1, code := none }
def k1c1 : Code := { maxStack := 10, maxLocals := 16, code := code, exceptionTable := #[], attributes := #[] }
def k1m1 : Method := { name := "law", desc := "(IIIIII)Z", sig := { parameters := [.int, .int, .int, .int, .int, .int], returnType := some .boolean }, accessFlags := 9, code := some k1c1 }
def k1c2 : Code := { maxStack := 2, maxLocals := 6, code := method_3_code, exceptionTable := #[], attributes := #[] }
def k1m2 : Method := { name := "expected", desc := "(IIIIII)Z", sig := { parameters := [.int, .int, .int, .int, .int, .int], returnType := some .boolean }, accessFlags := 10, code := some k1c2 }
/-- com/example/kvadtree/kvadtree/BoxContainsPinLaw -/
def k1 : Class := { plain "com/example/kvadtree/kvadtree/BoxContainsPinLaw" (some 0) with
  accessFlags := 49
  interfaces := #[]
  cf := some (fileOf pool1 29 #[] #[{ accessFlags := 1, nameIndex := 5, descriptorIndex := 6, attributes := #[] }, { accessFlags := 9, nameIndex := 36, descriptorIndex := 33, attributes := #[] }, { accessFlags := 10, nameIndex := 32, descriptorIndex := 33, attributes := #[] }] 49 2 #[] #[])
  fields := #[]
  methods := #[k1m0, k1m1, k1m2]
  instanceTypes := #[]
  staticTypes := #[]
  resolved := Array.replicate 40 none
  statics := none }

def pool2 : Array CpInfo := pool [(1, .class_ 2), (0, u "java/lang/Math"), (1, .class_ 6), (1, u "java/lang/Object"), (0, u "<init>"), (0, u "()V"), (89, .class_ 100), (1, u "java/lang/Math$RandomNumberGeneratorHolder"), (71, u "negativeZeroFloatBits"), (0, u "J"), (2, u "negativeZeroDoubleBits"), (21, u "max"), (2, u "min"), (43, u "$assertionsDisabled"), (0, u "Z"), (88, u "(II)I"), (2, u "twoToTheDoubleScaleDown"), (0, u "D"), (4, u "twoToTheDoubleScaleUp"), (9, u "E"), (3, u "PI"), (2, u "TAU"), (2, u "DEGREES_TO_RADIANS"), (0, u "RADIANS_TO_DEGREES")] 94

def k2m0 : Method := { name := "<init>", desc := "()V", sig := { parameters := [], returnType := none }, accessFlags := 2, code := none }
def k2c1 : Code := { maxStack := 2, maxLocals := 2, code := jdk_29_method_65_code, exceptionTable := #[], attributes := #[] }
def k2m1 : Method := { name := "max", desc := "(II)I", sig := { parameters := [.int, .int], returnType := some .int }, accessFlags := 9, code := some k2c1 }
def k2c2 : Code := { maxStack := 2, maxLocals := 2, code := jdk_29_method_69_code, exceptionTable := #[], attributes := #[] }
def k2m2 : Method := { name := "min", desc := "(II)I", sig := { parameters := [.int, .int], returnType := some .int }, accessFlags := 9, code := some k2c2 }
/-- java/lang/Math -/
def k2 : Class := { plain "java/lang/Math" (some 0) with
  accessFlags := 49
  interfaces := #[]
  cf := some (fileOf pool2 1 #[.nestMembers #[98]] #[{ accessFlags := 2, nameIndex := 7, descriptorIndex := 8, attributes := #[] }, { accessFlags := 9, nameIndex := 198, descriptorIndex := 335, attributes := #[] }, { accessFlags := 9, nameIndex := 201, descriptorIndex := 335, attributes := #[] }] 49 4 #[] #[{ accessFlags := 25, nameIndex := 354, descriptorIndex := 339, attributes := #[] }, { accessFlags := 25, nameIndex := 358, descriptorIndex := 339, attributes := #[] }, { accessFlags := 25, nameIndex := 361, descriptorIndex := 339, attributes := #[] }, { accessFlags := 26, nameIndex := 364, descriptorIndex := 339, attributes := #[] }, { accessFlags := 26, nameIndex := 365, descriptorIndex := 339, attributes := #[] }, { accessFlags := 26, nameIndex := 172, descriptorIndex := 173, attributes := #[] }, { accessFlags := 26, nameIndex := 176, descriptorIndex := 173, attributes := #[] }, { accessFlags := 8, nameIndex := 344, descriptorIndex := 339, attributes := #[] }, { accessFlags := 8, nameIndex := 338, descriptorIndex := 339, attributes := #[] }, { accessFlags := 4120, nameIndex := 245, descriptorIndex := 246, attributes := #[] }])
  fields := #[{ name := "E", type := .double, accessFlags := 25, slot := 0, constantValue := 0 }, { name := "PI", type := .double, accessFlags := 25, slot := 1, constantValue := 0 }, { name := "TAU", type := .double, accessFlags := 25, slot := 2, constantValue := 0 }, { name := "DEGREES_TO_RADIANS", type := .double, accessFlags := 26, slot := 3, constantValue := 0 }, { name := "RADIANS_TO_DEGREES", type := .double, accessFlags := 26, slot := 4, constantValue := 0 }, { name := "negativeZeroFloatBits", type := .long, accessFlags := 26, slot := 5, constantValue := 0 }, { name := "negativeZeroDoubleBits", type := .long, accessFlags := 26, slot := 6, constantValue := 0 }, { name := "twoToTheDoubleScaleUp", type := .double, accessFlags := 8, slot := 7, constantValue := 0 }, { name := "twoToTheDoubleScaleDown", type := .double, accessFlags := 8, slot := 8, constantValue := 0 }, { name := "$assertionsDisabled", type := .boolean, accessFlags := 4120, slot := 9, constantValue := 0 }]
  methods := #[k2m0, k2m1, k2m2]
  instanceTypes := #[]
  staticTypes := #[.double, .double, .double, .double, .double, .long, .long, .double, .double, .boolean]
  resolved := Array.replicate 460 none
  statics := none }

def pool3 : Array CpInfo := pool [(1, .methodref 2 3), (0, .class_ 4), (0, .nameAndType 5 6), (0, u "java/lang/Object"), (0, u "<init>"), (0, u "()V"), (0, .string 8), (0, u "west"), (0, .methodref 10 11), (0, .class_ 12), (0, .nameAndType 13 14), (0, u "com/example/kvadtree/kvadtree/Coordinates"), (0, u "checkLongitude"), (0, u "(Ljava/lang/String;D)V"), (0, .string 16), (0, u "south"), (0, .methodref 10 18), (0, .nameAndType 19 14), (0, u "checkLatitude"), (0, .string 21), (0, u "east"), (0, .string 23), (0, u "north"), (9, .fieldref 34 35), (0, .class_ 36), (0, .nameAndType 8 37), (0, u "com/example/kvadtree/kvadtree/Box"), (0, u "D"), (0, .fieldref 34 39), (0, .nameAndType 16 37), (0, .fieldref 34 41), (0, .nameAndType 21 37), (0, .fieldref 34 43), (0, .nameAndType 23 37), (0, .methodref 34 45), (0, .nameAndType 46 47), (0, u "intervals"), (0, u "(DD)[[D"), (0, .fieldref 34 49), (0, .nameAndType 46 50), (0, u "[[D"), (17, u "(DDDD)V"), (4, .class_ 75), (1, u "[D"), (8, .double 4640537203540230144), (1, .double 13863909240395005952), (16, u "contains"), (0, u "(DD)Z")] 23

def k3c0 : Code := { maxStack := 6, maxLocals := 9, code := prog_2_method_1_code, exceptionTable := #[], attributes := #[] }
def k3m0 : Method := { name := "<init>", desc := "(DDDD)V", sig := { parameters := [.double, .double, .double, .double], returnType := none }, accessFlags := 1, code := some k3c0 }
def k3c1 : Code := { maxStack := 4, maxLocals := 9, code := prog_2_method_8_code, exceptionTable := #[], attributes := #[] }
def k3m1 : Method := { name := "contains", desc := "(DD)Z", sig := { parameters := [.double, .double], returnType := some .boolean }, accessFlags := 1, code := some k3c1 }
def k3c2 : Code := { maxStack := 8, maxLocals := 5, code := prog_2_method_9_code, exceptionTable := #[], attributes := #[] }
def k3m2 : Method := { name := "intervals", desc := "(DD)[[D", sig := { parameters := [.double, .double], returnType := some (.array (.array .double)) }, accessFlags := 10, code := some k3c2 }
/-- com/example/kvadtree/kvadtree/Box -/
def k3 : Class := { plain "com/example/kvadtree/kvadtree/Box" (some 0) with
  accessFlags := 49
  interfaces := #[]
  cf := some (fileOf pool3 34 #[] #[{ accessFlags := 1, nameIndex := 5, descriptorIndex := 68, attributes := #[] }, { accessFlags := 1, nameIndex := 103, descriptorIndex := 104, attributes := #[] }, { accessFlags := 10, nameIndex := 46, descriptorIndex := 47, attributes := #[] }] 49 2 #[] #[{ accessFlags := 18, nameIndex := 8, descriptorIndex := 37, attributes := #[] }, { accessFlags := 18, nameIndex := 16, descriptorIndex := 37, attributes := #[] }, { accessFlags := 18, nameIndex := 21, descriptorIndex := 37, attributes := #[] }, { accessFlags := 18, nameIndex := 23, descriptorIndex := 37, attributes := #[] }, { accessFlags := 18, nameIndex := 46, descriptorIndex := 50, attributes := #[] }])
  fields := #[{ name := "west", type := .double, accessFlags := 18, slot := 0, constantValue := 0 }, { name := "south", type := .double, accessFlags := 18, slot := 1, constantValue := 0 }, { name := "east", type := .double, accessFlags := 18, slot := 2, constantValue := 0 }, { name := "north", type := .double, accessFlags := 18, slot := 3, constantValue := 0 }, { name := "intervals", type := (.array (.array .double)), accessFlags := 18, slot := 4, constantValue := 0 }]
  methods := #[k3m0, k3m1, k3m2]
  instanceTypes := #[.double, .double, .double, .double, (.array (.array .double))]
  staticTypes := #[]
  resolved := Array.replicate 128 none
  statics := none }

def pool4 : Array CpInfo := pool [(1, .class_ 2), (0, u "java/io/Serializable"), (0, .class_ 4), (0, u "java/lang/Object")] 2

/-- java/io/Serializable -/
def k4 : Class := { plain "java/io/Serializable" (some 0) with
  accessFlags := 1537
  interfaces := #[]
  cf := some (fileOf pool4 1 #[] #[] 1537 3 #[] #[])
  fields := #[]
  methods := #[]
  instanceTypes := #[]
  staticTypes := #[]
  resolved := Array.replicate 7 none
  statics := none }

def pool5 : Array CpInfo := pool [(1, .class_ 2), (0, u "java/lang/Comparable"), (0, .class_ 4), (0, u "java/lang/Object")] 7

/-- java/lang/Comparable -/
def k5 : Class := { plain "java/lang/Comparable" (some 0) with
  accessFlags := 1537
  interfaces := #[]
  cf := some (fileOf pool5 1 #[] #[] 1537 3 #[] #[])
  fields := #[]
  methods := #[]
  instanceTypes := #[]
  staticTypes := #[]
  resolved := Array.replicate 12 none
  statics := none }

def pool6 : Array CpInfo := pool [(2, .class_ 4), (1, u "java/lang/CharSequence"), (42, .class_ 48), (0, u "java/lang/CharSequence$1CodePointIterator"), (10, .class_ 60), (0, u "java/lang/CharSequence$1CharIterator"), (5, .class_ 67), (0, u "java/lang/Object")] 63

/-- java/lang/CharSequence -/
def k6 : Class := { plain "java/lang/CharSequence" (some 0) with
  accessFlags := 1537
  interfaces := #[]
  cf := some (fileOf pool6 2 #[.nestMembers #[47, 59]] #[] 1537 66 #[] #[])
  fields := #[]
  methods := #[]
  instanceTypes := #[]
  staticTypes := #[]
  resolved := Array.replicate 131 none
  statics := none }

def pool7 : Array CpInfo := pool [(1, .class_ 2), (0, u "java/lang/constant/Constable"), (0, .class_ 4), (0, u "java/lang/Object")] 6

/-- java/lang/constant/Constable -/
def k7 : Class := { plain "java/lang/constant/Constable" (some 0) with
  accessFlags := 1537
  interfaces := #[]
  cf := some (fileOf pool7 1 #[] #[] 1537 3 #[] #[])
  fields := #[]
  methods := #[]
  instanceTypes := #[]
  staticTypes := #[]
  resolved := Array.replicate 11 none
  statics := none }

def pool8 : Array CpInfo := pool [(1, .class_ 2), (0, u "java/lang/constant/ConstantDesc"), (0, .class_ 4), (0, u "java/lang/Object")] 32

/-- java/lang/constant/ConstantDesc -/
def k8 : Class := { plain "java/lang/constant/ConstantDesc" (some 0) with
  accessFlags := 1537
  interfaces := #[]
  cf := some (fileOf pool8 1 #[] #[] 1537 3 #[] #[])
  fields := #[]
  methods := #[]
  instanceTypes := #[]
  staticTypes := #[]
  resolved := Array.replicate 37 none
  statics := none }

def pool9 : Array CpInfo := pool [(2, .class_ 4), (1, u "java/lang/Object"), (0, u "<init>"), (0, u "()V"), (3, .class_ 12), (1, u "java/lang/String"), (0, u "value"), (0, u "[B"), (2, u "coder"), (0, u "B"), (2, u "hash"), (0, u "I"), (2, u "hashIsZero"), (0, u "Z"), (13, u "COMPACT_STRINGS"), (534, .class_ 576), (0, u "java/lang/CharSequence"), (22, u "CASE_INSENSITIVE_ORDER"), (0, u "Ljava/util/Comparator;"), (500, u "serialPersistentFields"), (0, u "[Ljava/io/ObjectStreamField;"), (0, .class_ 1104), (0, u "java/lang/String$CaseInsensitiveComparator"), (1, .class_ 1107), (0, u "java/io/Serializable"), (0, .class_ 1109), (0, u "java/lang/Comparable"), (0, .class_ 1111), (0, u "java/lang/constant/Constable"), (0, .class_ 1113), (0, u "java/lang/constant/ConstantDesc"), (2, u "serialVersionUID"), (0, u "J"), (3, u "REPL"), (0, u "C"), (2, u "LATIN1"), (1, u "UTF16")] 323

def k9m0 : Method := { name := "<init>", desc := "()V", sig := { parameters := [], returnType := none }, accessFlags := 1, code := none }
/-- java/lang/String -/
def k9 : Class := { plain "java/lang/String" (some 0) with
  accessFlags := 49
  interfaces := #[4, 5, 6, 7, 8]
  cf := some (fileOf pool9 10 #[.nestMembers #[1103]] #[{ accessFlags := 1, nameIndex := 5, descriptorIndex := 6, attributes := #[] }] 49 2 #[1106, 1108, 575, 1110, 1112] #[{ accessFlags := 18, nameIndex := 13, descriptorIndex := 14, attributes := #[] }, { accessFlags := 18, nameIndex := 17, descriptorIndex := 18, attributes := #[] }, { accessFlags := 2, nameIndex := 21, descriptorIndex := 22, attributes := #[] }, { accessFlags := 2, nameIndex := 25, descriptorIndex := 26, attributes := #[] }, { accessFlags := 26, nameIndex := 1116, descriptorIndex := 1117, attributes := #[] }, { accessFlags := 24, nameIndex := 40, descriptorIndex := 26, attributes := #[] }, { accessFlags := 26, nameIndex := 1101, descriptorIndex := 1102, attributes := #[] }, { accessFlags := 26, nameIndex := 1121, descriptorIndex := 1122, attributes := #[] }, { accessFlags := 25, nameIndex := 599, descriptorIndex := 600, attributes := #[] }, { accessFlags := 24, nameIndex := 1125, descriptorIndex := 18, attributes := #[] }, { accessFlags := 24, nameIndex := 1127, descriptorIndex := 18, attributes := #[] }])
  fields := #[{ name := "value", type := (.array .byte), accessFlags := 18, slot := 0, constantValue := 0 }, { name := "coder", type := .byte, accessFlags := 18, slot := 1, constantValue := 0 }, { name := "hash", type := .int, accessFlags := 2, slot := 2, constantValue := 0 }, { name := "hashIsZero", type := .boolean, accessFlags := 2, slot := 3, constantValue := 0 }, { name := "serialVersionUID", type := .long, accessFlags := 26, slot := 0, constantValue := 0 }, { name := "COMPACT_STRINGS", type := .boolean, accessFlags := 24, slot := 1, constantValue := 0 }, { name := "serialPersistentFields", type := (.array (.object "java/io/ObjectStreamField")), accessFlags := 26, slot := 2, constantValue := 0 }, { name := "REPL", type := .char, accessFlags := 26, slot := 3, constantValue := 0 }, { name := "CASE_INSENSITIVE_ORDER", type := (.object "java/util/Comparator"), accessFlags := 25, slot := 4, constantValue := 0 }, { name := "LATIN1", type := .byte, accessFlags := 24, slot := 5, constantValue := 0 }, { name := "UTF16", type := .byte, accessFlags := 24, slot := 6, constantValue := 0 }]
  methods := #[k9m0]
  instanceTypes := #[(.array .byte), .byte, .int, .boolean]
  staticTypes := #[.long, .boolean, (.array (.object "java/io/ObjectStreamField")), .char, (.object "java/util/Comparator"), .byte, .byte]
  resolved := Array.replicate 1451 none
  statics := none }

def pool10 : Array CpInfo := pool [(2, .class_ 4), (1, u "java/lang/Object"), (0, u "<init>"), (0, u "()V"), (1, .class_ 10), (1, u "com/example/kvadtree/kvadtree/Coordinates"), (10, u "DECIMAL"), (0, u "Ljava/util/regex/Pattern;"), (21, .double 13863909240395005952), (1, .double 4640537203540230144), (4, .double 13859405640767635456), (1, .double 4636033603912859648), (13, u "checkLongitude"), (0, u "(Ljava/lang/String;D)V"), (0, u "checkLatitude")] 22

def k10m0 : Method := { name := "<init>", desc := "()V", sig := { parameters := [], returnType := none }, accessFlags := 2, code := none }
def k10c1 : Code := { maxStack := 5, maxLocals := 3, code := prog_9_method_4_code, exceptionTable := #[], attributes := #[] }
def k10m1 : Method := { name := "checkLongitude", desc := "(Ljava/lang/String;D)V", sig := { parameters := [(.object "java/lang/String"), .double], returnType := none }, accessFlags := 9, code := some k10c1 }
def k10c2 : Code := { maxStack := 5, maxLocals := 3, code := prog_9_method_5_code, exceptionTable := #[], attributes := #[] }
def k10m2 : Method := { name := "checkLatitude", desc := "(Ljava/lang/String;D)V", sig := { parameters := [(.object "java/lang/String"), .double], returnType := none }, accessFlags := 9, code := some k10c2 }
/-- com/example/kvadtree/kvadtree/Coordinates -/
def k10 : Class := { plain "com/example/kvadtree/kvadtree/Coordinates" (some 0) with
  accessFlags := 49
  interfaces := #[]
  cf := some (fileOf pool10 8 #[] #[{ accessFlags := 2, nameIndex := 5, descriptorIndex := 6, attributes := #[] }, { accessFlags := 9, nameIndex := 67, descriptorIndex := 68, attributes := #[] }, { accessFlags := 9, nameIndex := 69, descriptorIndex := 68, attributes := #[] }] 49 2 #[] #[{ accessFlags := 26, nameIndex := 21, descriptorIndex := 22, attributes := #[] }])
  fields := #[{ name := "DECIMAL", type := (.object "java/util/regex/Pattern"), accessFlags := 26, slot := 0, constantValue := 0 }]
  methods := #[k10m0, k10m1, k10m2]
  instanceTypes := #[]
  staticTypes := #[(.object "java/util/regex/Pattern")]
  resolved := Array.replicate 92 none
  statics := none }

def pool11 : Array CpInfo := pool [(1, u "java/lang/Cloneable"), (0, .class_ 1), (0, u "java/lang/Object"), (0, .class_ 3)] 3

/-- java/lang/Cloneable -/
def k11 : Class := { plain "java/lang/Cloneable" (some 0) with
  accessFlags := 1537
  interfaces := #[]
  cf := some (fileOf pool11 2 #[] #[] 1537 4 #[] #[])
  fields := #[]
  methods := #[]
  instanceTypes := #[]
  staticTypes := #[]
  resolved := Array.replicate 8 none
  statics := none }

/-- the primitive byte -/
def k12 : Class := { plain "byte" none with kind := .primitive 'B', accessFlags := 0x411 }
/-- [B -/
def k13 : Class := { plain "[B" (some 0) with kind := .array 12 .byte, interfaces := #[11, 4], accessFlags := 1041 }

/-- the primitive int -/
def k14 : Class := { plain "int" none with kind := .primitive 'I', accessFlags := 0x411 }
/-- [I -/
def k15 : Class := { plain "[I" (some 0) with kind := .array 14 .int, interfaces := #[11, 4], accessFlags := 1041 }

/-- the primitive double -/
def k16 : Class := { plain "double" none with kind := .primitive 'D', accessFlags := 0x411 }
/-- [D -/
def k17 : Class := { plain "[D" (some 0) with kind := .array 16 .double, interfaces := #[11, 4], accessFlags := 1041 }
/-- [[D -/
def k18 : Class := { plain "[[D" (some 0) with kind := .array 17 (.array .double), interfaces := #[11, 4], accessFlags := 1041 }
def heap : Heap := #[]
def classes : Array Class := #[k0, k1, k2, k3, k4, k5, k6, k7, k8, k9, k10, k11, k12, k13, k14, k15, k16, k17, k18]
def interned : List (Array UInt16 × Addr) := []
def slotsUsed : Nat := 0
def theMethod : MethodId := ⟨1, 1⟩
def args0 : Array Value := #[.int 3, .int 4, .int 5, .int 6, .int 7, .int 8]
def aboutOver (below : List Frame) : State where
  vm := { classes := classes, interned := interned.toArray }
  heap := heap
  slotsUsed := slotsUsed
  threads := #[{ frames := .invoking theMethod args0 :: below }]
def below0 : List Frame := [.native { method := ⟨0, 0⟩, args := #[] }]
def about1 : State := aboutOver below0
def p0 : Program := .bare "" "" ""
def e0 : Env := launch0.env 0 0 0
theorem w_frames : about1.frames = Frame.invoking theMethod args0 :: below0 := rfl
set_option maxRecDepth 65536 in
theorem w_args : argsFit about1.vm theMethod args0 = true := by decide +kernel
set_option maxRecDepth 65536 in
theorem w_heap : heapFits about1 = true := by decide +kernel
set_option maxRecDepth 65536 in
theorem w_runnable : about1.curStatus? = some .runnable := by decide +kernel
set_option maxRecDepth 65536 in
theorem w_alone : about1.alone = true := by decide +kernel
set_option maxRecDepth 65536 in
theorem w_named : about1.methodNamed? x = some theMethod := by decide +kernel
set_option maxRecDepth 65536 in
theorem w_hears : about1.hears theMethod below0 = true := by decide +kernel
set_option maxRecDepth 65536 in
theorem w_ripe : about1.ripe theMethod args0 below0 = true := by decide +kernel
theorem w_running : about1.status = .running := rfl
set_option maxRecDepth 65536 in
theorem w_room : about1.hasRoom e0.platform room_1 = true :=
  launch0.hasRoom_least _ room_1 (by decide +kernel) (by decide +kernel) (by decide +kernel) (by decide +kernel) (by decide +kernel) (by decide +kernel)
theorem allAtoms_all (ts : List Jvm.Cond) (a : Array Jvm.Value) (st : Jvm.State) : (allAtoms ts).before a st = ts.all (fun c => c.before a st) := by
  induction ts with
  | nil => rfl
  | cons c t ih =>
    show (Jvm.Cond.and c (allAtoms t)).before a st = _
    rw [Jvm.Cond.before_and, ih, List.all_cons]
def words1 : List Jvm.Cond := Jvm.Cond.code x code maxLocals ret :: tables_1
/-- a 'code' word, met by the world's own term for the bytes: nothing is compared byte by byte -/
theorem code_word {y : MethodName} {bytes : ByteArray} {mx : Nat} {rt : Option FieldType} {a : Array Value} {s : State} {m : MethodId} {meth : Method} {c : Code} (h1 : s.methodNamed? y = some m) (h2 : s.vm.method? m = some meth) (h3 : meth.code = some c) (h4 : c.code = bytes)
    (h5 : (c.maxLocals == mx && c.exceptionTable.isEmpty && decide (c.maxStack ≤ mostOperands) && decide (meth.sig.returnType = rt) && !meth.locks && decide (parseMethodDescriptor y.desc = some meth.sig)) = true) : (Jvm.Cond.code y bytes mx rt).before a s = true := by
  simp only [Bool.and_eq_true, beq_iff_eq, Bool.not_eq_true', decide_eq_true_eq] at h5
  obtain ⟨⟨⟨⟨⟨g1, g2⟩, g3⟩, g4⟩, g5⟩, g6⟩ := h5
  simp [Cond.before, Cond.holds, Cond.value, h1, h2, h3, h4, g1, g2, g3, g4, g5, g6]
def isCode : Jvm.Cond → Bool
  | .code _ _ _ _ => true
  | _ => false
theorem all_split {L : List Jvm.Cond} {P : Jvm.Cond → Bool} (h1 : L.all (fun c => isCode c || P c) = true) (h2 : ∀ c ∈ L.filter isCode, P c = true) : L.all P = true := by
  refine List.all_eq_true.mpr fun c hc => ?_
  have h := List.all_eq_true.mp h1 c hc
  rcases Bool.eq_false_or_eq_true (isCode c) with hi | hi
  · exact h2 c (List.mem_filter.mpr ⟨hc, hi⟩)
  · simpa [hi] using h
set_option maxRecDepth 65536 in
theorem w_c0 : (Jvm.Cond.code x code maxLocals ret).before args0 about1 = true := code_word (m := ⟨1, 1⟩) (meth := k1m1) (c := k1c1) (by decide +kernel) rfl rfl rfl (by decide +kernel)
set_option maxRecDepth 65536 in
theorem w_c1 : (Jvm.Cond.code ({ cls := "java/lang/Math", name := "min", desc := "(II)I" } : Jvm.MethodName) jdk_29_method_69_code (2 : Nat) (Option.some Jvm.ClassFile.FieldType.int)).before args0 about1 = true := code_word (m := ⟨2, 2⟩) (meth := k2m2) (c := k2c2) (by decide +kernel) rfl rfl rfl (by decide +kernel)
set_option maxRecDepth 65536 in
theorem w_c2 : (Jvm.Cond.code ({ cls := "java/lang/Math", name := "max", desc := "(II)I" } : Jvm.MethodName) jdk_29_method_65_code (2 : Nat) (Option.some Jvm.ClassFile.FieldType.int)).before args0 about1 = true := code_word (m := ⟨2, 1⟩) (meth := k2m1) (c := k2c1) (by decide +kernel) rfl rfl rfl (by decide +kernel)
set_option maxRecDepth 65536 in
theorem w_c3 : (Jvm.Cond.code ({ cls := "com/example/kvadtree/kvadtree/Box", name := "<init>", desc := "(DDDD)V" } : Jvm.MethodName) prog_2_method_1_code (9 : Nat) (Option.none : Option Jvm.ClassFile.FieldType)).before args0 about1 = true := code_word (m := ⟨3, 0⟩) (meth := k3m0) (c := k3c0) (by decide +kernel) rfl rfl rfl (by decide +kernel)
set_option maxRecDepth 65536 in
theorem w_c4 : (Jvm.Cond.code ({ cls := "java/lang/Object", name := "<init>", desc := "()V" } : Jvm.MethodName) object_method_1_code (1 : Nat) (Option.none : Option Jvm.ClassFile.FieldType)).before args0 about1 = true := code_word (m := ⟨0, 0⟩) (meth := k0m0) (c := k0c0) (by decide +kernel) rfl rfl rfl (by decide +kernel)
set_option maxRecDepth 65536 in
theorem w_c5 : (Jvm.Cond.code ({ cls := "com/example/kvadtree/kvadtree/Coordinates", name := "checkLongitude", desc := "(Ljava/lang/String;D)V" } : Jvm.MethodName) prog_9_method_4_code (3 : Nat) (Option.none : Option Jvm.ClassFile.FieldType)).before args0 about1 = true := code_word (m := ⟨10, 1⟩) (meth := k10m1) (c := k10c1) (by decide +kernel) rfl rfl rfl (by decide +kernel)
set_option maxRecDepth 65536 in
theorem w_c6 : (Jvm.Cond.code ({ cls := "com/example/kvadtree/kvadtree/Coordinates", name := "checkLatitude", desc := "(Ljava/lang/String;D)V" } : Jvm.MethodName) prog_9_method_5_code (3 : Nat) (Option.none : Option Jvm.ClassFile.FieldType)).before args0 about1 = true := code_word (m := ⟨10, 2⟩) (meth := k10m2) (c := k10c2) (by decide +kernel) rfl rfl rfl (by decide +kernel)
set_option maxRecDepth 65536 in
theorem w_c7 : (Jvm.Cond.code ({ cls := "com/example/kvadtree/kvadtree/Box", name := "intervals", desc := "(DD)[[D" } : Jvm.MethodName) prog_2_method_9_code (5 : Nat) (Option.some (Jvm.ClassFile.FieldType.array (Jvm.ClassFile.FieldType.array Jvm.ClassFile.FieldType.double)))).before args0 about1 = true := code_word (m := ⟨3, 2⟩) (meth := k3m2) (c := k3c2) (by decide +kernel) rfl rfl rfl (by decide +kernel)
set_option maxRecDepth 65536 in
theorem w_c8 : (Jvm.Cond.code ({ cls := "com/example/kvadtree/kvadtree/Box", name := "contains", desc := "(DD)Z" } : Jvm.MethodName) prog_2_method_8_code (9 : Nat) (Option.some Jvm.ClassFile.FieldType.boolean)).before args0 about1 = true := code_word (m := ⟨3, 1⟩) (meth := k3m1) (c := k3c1) (by decide +kernel) rfl rfl rfl (by decide +kernel)
set_option maxRecDepth 65536 in
theorem w_c9 : (Jvm.Cond.code ({ cls := "com/example/kvadtree/kvadtree/BoxContainsPinLaw", name := "expected", desc := "(IIIIII)Z" } : Jvm.MethodName) method_3_code (6 : Nat) (Option.some Jvm.ClassFile.FieldType.boolean)).before args0 about1 = true := code_word (m := ⟨1, 2⟩) (meth := k1m2) (c := k1c2) (by decide +kernel) rfl rfl rfl (by decide +kernel)
def codes1 : List Jvm.Cond := [Jvm.Cond.code x code maxLocals ret, Jvm.Cond.code ({ cls := "java/lang/Math", name := "min", desc := "(II)I" } : Jvm.MethodName) jdk_29_method_69_code (2 : Nat) (Option.some Jvm.ClassFile.FieldType.int), Jvm.Cond.code ({ cls := "java/lang/Math", name := "max", desc := "(II)I" } : Jvm.MethodName) jdk_29_method_65_code (2 : Nat) (Option.some Jvm.ClassFile.FieldType.int), Jvm.Cond.code ({ cls := "com/example/kvadtree/kvadtree/Box", name := "<init>", desc := "(DDDD)V" } : Jvm.MethodName) prog_2_method_1_code (9 : Nat) (Option.none : Option Jvm.ClassFile.FieldType), Jvm.Cond.code ({ cls := "java/lang/Object", name := "<init>", desc := "()V" } : Jvm.MethodName) object_method_1_code (1 : Nat) (Option.none : Option Jvm.ClassFile.FieldType), Jvm.Cond.code ({ cls := "com/example/kvadtree/kvadtree/Coordinates", name := "checkLongitude", desc := "(Ljava/lang/String;D)V" } : Jvm.MethodName) prog_9_method_4_code (3 : Nat) (Option.none : Option Jvm.ClassFile.FieldType), Jvm.Cond.code ({ cls := "com/example/kvadtree/kvadtree/Coordinates", name := "checkLatitude", desc := "(Ljava/lang/String;D)V" } : Jvm.MethodName) prog_9_method_5_code (3 : Nat) (Option.none : Option Jvm.ClassFile.FieldType), Jvm.Cond.code ({ cls := "com/example/kvadtree/kvadtree/Box", name := "intervals", desc := "(DD)[[D" } : Jvm.MethodName) prog_2_method_9_code (5 : Nat) (Option.some (Jvm.ClassFile.FieldType.array (Jvm.ClassFile.FieldType.array Jvm.ClassFile.FieldType.double))), Jvm.Cond.code ({ cls := "com/example/kvadtree/kvadtree/Box", name := "contains", desc := "(DD)Z" } : Jvm.MethodName) prog_2_method_8_code (9 : Nat) (Option.some Jvm.ClassFile.FieldType.boolean), Jvm.Cond.code ({ cls := "com/example/kvadtree/kvadtree/BoxContainsPinLaw", name := "expected", desc := "(IIIIII)Z" } : Jvm.MethodName) method_3_code (6 : Nat) (Option.some Jvm.ClassFile.FieldType.boolean)]
set_option maxRecDepth 65536 in
theorem codes_eq : words1.filter isCode = codes1 := rfl
theorem w_codes : ∀ c ∈ words1.filter isCode, c.before args0 about1 = true := by
  rw [codes_eq]
  intro c hc
  simp only [codes1, List.mem_cons, List.not_mem_nil, or_false] at hc
  rcases hc with rfl | rfl | rfl | rfl | rfl | rfl | rfl | rfl | rfl | rfl
  · exact w_c0
  · exact w_c1
  · exact w_c2
  · exact w_c3
  · exact w_c4
  · exact w_c5
  · exact w_c6
  · exact w_c7
  · exact w_c8
  · exact w_c9
set_option maxRecDepth 65536 in
theorem w_t1 : (words1.take 24).all (fun c => isCode c || c.before args0 about1) = true := by decide +kernel
set_option maxRecDepth 65536 in
theorem w_t2 : ((words1.drop 24).take 24).all (fun c => isCode c || c.before args0 about1) = true := by decide +kernel
set_option maxRecDepth 65536 in
theorem w_t3 : ((words1.drop 24).drop 24).all (fun c => isCode c || c.before args0 about1) = true := by decide +kernel
theorem w_tables : (allAtoms (Jvm.Cond.code x code maxLocals ret :: tables_1)).before args0 about1 = true := by
  rw [allAtoms_all]
  show words1.all (fun c => c.before args0 about1) = true
  refine all_split ?_ w_codes
  rw [← List.take_append_drop 24 words1, List.all_append, w_t1, ← List.take_append_drop 24 (words1.drop 24), List.all_append, w_t2, w_t3]
  rfl
set_option maxRecDepth 65536 in
theorem w_case : (Jvm.Cond.and given_1 narrow_1).before args0 about1 = true := by decide +kernel
theorem w_applies : (headSpec (Jvm.Cond.code x code maxLocals ret :: tables_1) room_1).applies x e0.platform about1 = true :=
  (Spec.applies_iff w_frames).mpr ⟨w_running, w_runnable, w_alone, w_named, w_hears, w_ripe, w_room, w_tables⟩
theorem atStart : AtStart classFile x code maxLocals ret World_1 tables_1 room_1 Calls_1 rest_1 Pre_1 launch0 p0 e0 about1 theMethod args0 below0 :=
  ⟨lists_1, trivial, launch0.admits_env _ _ _, launch0.least_env, fairChoices_fair.cas, fairChoices_fair.clock, w_frames, w_args, w_heap, w_applies, trivial, trivial, w_case⟩
end start1
theorem witness_1 : WitnessClaimed_1 := ⟨start1.p0, start1.e0, start1.about1, start1.theMethod, start1.args0, start1.below0, start1.atStart⟩
end Jvm.Pilot.@@N@@

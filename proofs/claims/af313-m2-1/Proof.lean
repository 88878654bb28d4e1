import JvmDerived
import JvmDerived.Pilot.@@N@@Statement
import JvmDerived.Pilot.@@N@@Code
set_option linter.unusedVariables false
set_option linter.unusedSimpArgs false
namespace Jvm.Pilot.@@N@@
open Jvm Jvm.ClassFile Sem Op Lib Jvm.Free Jvm.Stand Jvm.LawKit Jvm.RoadKit Bundle Jvm.Pilot.@@N@@.Jvm.D
/-! ## the run in continuation form: 'Go G T g': from T with the top frame g the run ends as G says -/
def Go (p : Program) (e : Env) (below : List Frame) (G : State → Outcome → Prop) (T : State) (g : JFrame) : Prop :=
  ∃ s₂ o, Steps p.tables e below (T.setTop g) s₂ ∧ s₂.status = .running ∧ Ended s₂ below o ∧ G s₂ o
/-- what a contract asks of the end -/
def FinQ (s : State) (Q : Option Value → Heap → List Loc → Prop) (kc ks : Nat) (U' : State) (o : Outcome) : Prop :=
  ∃ v L, o = .returned v ∧ Q v U'.heap L ∧ FrameEnd s o U' L kc ks
/-- a body's contract, as backOf takes it -/
def Met1 (l : Launch) (Z : State) (y : MethodName) (bytes : ByteArray) (maxL : Nat) (rt : Option FieldType) (rm : Room) (as : Array Value) (h0 : Heap) (Q : Option Value → Heap → List Loc → Prop) : Prop :=
  ∀ ws : List Jvm.Cond, MetFree l y (head1 (Jvm.Cond.code y bytes maxL rt :: ws) rm) (fun a U => a = as ∧ Z.Warmed39 U.vm ∧ U.heap = h0) (fun _ _ _ _ _ => True)
    (fun _ U o U' => ∃ v L, o = .returned v ∧ Q v U'.heap L ∧ FrameEnd U o U' L rm.cells rm.slots)
section OwnGo
variable {p : Program} {l : Launch} {e : Env} {R : Room} {s : State} {m : MethodId} {args : Array Value} {below : List Frame} {meth : Method} {c : Code} {T T' : State} {locs : List Loc} {cells slots : Nat} {G : State → Outcome → Prop} {Ls : Array Slot} {st : List Value} {pc : Nat} {bs : ByteArray} {Z : State} {a0 : Array Value} {h : Heap} {g g' : JFrame}
theorem Go.by (q : ∀ t, Steps p.tables e below (T'.setTop g') t → Steps p.tables e below (T.setTop g) t) (k : Go p e below G T' g') : Go p e below G T g := by
  obtain ⟨s₂, o, h1, h2⟩ := k
  exact ⟨s₂, o, q _ h1, h2⟩
theorem own_met_of {Z : State} {y : MethodName} {bytes : ByteArray} {maxL : Nat} {rt : Option FieldType} {rm : Room} {as : Array Value} {h0 : Heap} {Q : Option Value → Heap → List Loc → Prop} {Ls0 : Array Slot} (hpl : plainFor y = true) (ef : ∀ m, entryFrame m as maxL = mkF m 0 Ls0 [])
    (body : ∀ (p : Program) (e : Env) (s : State) (m : MethodId) (below : List Frame) (meth : Method) (c : Code) (s₁ : State), Stand p l e rm s m as below meth c s₁ [] 0 0 → p.tables.exec = Jvm.exec → c.code = bytes → c.maxLocals = maxL → Z.Warmed39 s.vm → s.vm.findClass y.cls = some m.cls → meth.name = y.name → meth.sig.returnType = rt → meth.locks = false → s₁.heap = h0 →
      Go p e below (FinQ s Q rm.cells rm.slots) s₁ (mkF m 0 Ls0 [])) : Met1 l Z y bytes maxL rt rm as h0 Q := by
  intro ws
  refine MetFree.of_bodySF hpl hisR ?_
  intro p e s m args below meth c s₁ Bd hml0 hP hK
  obtain ⟨rfl, hZ, hh⟩ := hP
  have k := body p e s m below meth c s₁ (Stand.of_body Bd) Bd.exec Bd.bytes hml0 hZ (findClass_of_methodNamed Bd.named) (name_of_methodNamed Bd.named Bd.method).1 Bd.returns Bd.notSynchronized (by rw [← hh, Bd.state]; rfl)
  rw [← ef m] at k
  exact k
theorem own_leave {Q : Option Value → Heap → List Loc → Prop} {kc ks : Nat} {v : Option Value} (X : Stand p l e R s m args below meth c T locs cells slots) (hv : meth.sig.returnType = none → v = none) (hlk : meth.locks = false) (hc : cells ≤ kc) (hs : slots ≤ ks) (hQ : Q v T.heap locs)
    (k : ∀ fs, (∀ (f : JFrame) (acts : List Action), f.method = m → f.locked = none → f.entered = [] → (doReturn e (T.setTop f) acts v).1 = T.setFrames fs) → Steps p.tables e below (T.setTop g) (T.setFrames fs)) : Go p e below (FinQ s Q kc ks) T g := by
  obtain ⟨fs, hr, hrun, hended, hW, hsame⟩ := X.leave (v := v) hv hlk
  exact ⟨_, _, k fs hr, hrun, hended, _, _, rfl, hQ, ⟨_, rfl⟩, hW, hsame.mono hc hs⟩
theorem own_retI {Q : Option Value → Heap → List Loc → Prop} {kc ks : Nat} {z : Int32} (X : Stand p l e R s m args below meth c T locs cells slots) (hx : p.tables.exec = Jvm.exec) (hby : c.code = bs) (hret : meth.sig.returnType = some .int) (hlk : meth.locks = false) (hd : decode bs pc = .ok (.ireturn, 1)) (hc : cells ≤ kc) (hs : slots ≤ ks) (hQ : Q (some (.int z)) T.heap locs) : Go p e below (FinQ s Q kc ks) T (mkF m pc Ls (.int z :: st)) := by
  refine own_leave X (fun q => by rw [hret] at q; cases q) hlk hc hs hQ fun fs hr => ?_
  exact retOut X hx hret rfl (Or.inl ⟨rfl, Or.inl rfl, z, rfl⟩) (hb hby hd) hr
theorem own_retN {Q : Option Value → Heap → List Loc → Prop} {kc ks : Nat} {z z' : Int32} {t : FieldType} (X : Stand p l e R s m args below meth c T locs cells slots) (hx : p.tables.exec = Jvm.exec) (hby : c.code = bs) (hret : meth.sig.returnType = some t) (hlk : meth.locks = false) (ht : t = .boolean ∨ t = .byte ∨ t = .char ∨ t = .short) (hd : decode bs pc = .ok (.ireturn, 1)) (hc : cells ≤ kc) (hs : slots ≤ ks) (hn : nar t z = z') (hQ : Q (some (.int z')) T.heap locs) : Go p e below (FinQ s Q kc ks) T (mkF m pc Ls (.int z :: st)) := by
  subst hn
  refine own_leave X (fun q => by rw [hret] at q; cases q) hlk hc hs hQ fun fs hr => ?_
  exact retN X hx hret ht (hb hby hd) hr
theorem own_retJ {Q : Option Value → Heap → List Loc → Prop} {kc ks : Nat} {z : Int64} (X : Stand p l e R s m args below meth c T locs cells slots) (hx : p.tables.exec = Jvm.exec) (hby : c.code = bs) (hret : meth.sig.returnType = some .long) (hlk : meth.locks = false) (hd : decode bs pc = .ok (.lreturn, 1)) (hc : cells ≤ kc) (hs : slots ≤ ks) (hQ : Q (some (.long z)) T.heap locs) : Go p e below (FinQ s Q kc ks) T (mkF m pc Ls (.long z :: st)) := by
  refine own_leave X (fun q => by rw [hret] at q; cases q) hlk hc hs hQ fun fs hr => ?_
  exact retOut X hx hret rfl (Or.inr (Or.inl ⟨rfl, rfl, z, rfl⟩)) (hb hby hd) hr
theorem own_retA {Q : Option Value → Heap → List Loc → Prop} {kc ks : Nat} {w : Value} {t : FieldType} (X : Stand p l e R s m args below meth c T locs cells slots) (hx : p.tables.exec = Jvm.exec) (hby : c.code = bs) (hret : meth.sig.returnType = some t) (hlk : meth.locks = false) (ht : t.isReference = true) (hw : w.isRef = true) (hn : narrow t w = w) (hd : decode bs pc = .ok (.areturn, 1)) (hc : cells ≤ kc) (hs : slots ≤ ks) (hQ : Q (some w) T.heap locs) : Go p e below (FinQ s Q kc ks) T (mkF m pc Ls (w :: st)) := by
  refine own_leave X (fun q => by rw [hret] at q; cases q) hlk hc hs hQ fun fs hr => ?_
  exact retOut X hx hret hn (Or.inr (Or.inr (Or.inr (Or.inr ⟨rfl, ht, hw⟩)))) (hb hby hd) hr
theorem own_ret {Q : Option Value → Heap → List Loc → Prop} {kc ks : Nat} (X : Stand p l e R s m args below meth c T locs cells slots) (hx : p.tables.exec = Jvm.exec) (hby : c.code = bs) (hret : meth.sig.returnType = none) (hlk : meth.locks = false) (hd : decode bs pc = .ok (.return_, 1)) (hc : cells ≤ kc) (hs : slots ≤ ks) (hQ : Q none T.heap locs) : Go p e below (FinQ s Q kc ks) T (mkF m pc Ls []) := by
  refine own_leave X (fun _ => rfl) hlk hc hs hQ fun fs hr => ?_
  exact X.returnOut hx hret (hb hby hd) hr
theorem own_iload (X : Stand p l e R s m args below meth c T locs cells slots) (hx : p.tables.exec = Jvm.exec) (hby : c.code = bs) {n : Nat} (v : Int32) (hd : decode bs pc = .ok (.iload n, 2)) (hl : Ls[n]? = some (.val (.int v))) (pc' : Nat) (hp : pc + 2 = pc') (k : Go p e below G T (mkF m pc' Ls (.int v :: st))) : Go p e below G T (mkF m pc Ls st) := by
  subst hp
  exact Go.by (fun t q => XS.iload X.here hx rfl (hb hby hd) hl q) k
theorem own_iloadN (X : Stand p l e R s m args below meth c T locs cells slots) (hx : p.tables.exec = Jvm.exec) (hby : c.code = bs) {n : Fin 4} (v : Int32) (hd : decode bs pc = .ok (.iload_n n, 1)) (hl : Ls[n.val]? = some (.val (.int v))) (pc' : Nat) (hp : pc + 1 = pc') (k : Go p e below G T (mkF m pc' Ls (.int v :: st))) : Go p e below G T (mkF m pc Ls st) := by
  subst hp
  exact Go.by (fun t q => XS.iloadN X.here hx rfl (hb hby hd) hl q) k
theorem own_istore (X : Stand p l e R s m args below meth c T locs cells slots) (hx : p.tables.exec = Jvm.exec) (hby : c.code = bs) {n : Nat} {x x' : Int32} (hd : decode bs pc = .ok (.istore n, 2)) (ex : x = x') {l' : Array Slot} (hl : storeLocals Ls n (.int x') = some l') (pc' : Nat) (hp : pc + 2 = pc') (k : Go p e below G T (mkF m pc' l' st)) : Go p e below G T (mkF m pc Ls (.int x :: st)) := by
  subst hp
  subst ex
  exact Go.by (fun t q => XS.istore X.here hx rfl (hb hby hd) rfl hl q) k
theorem own_istoreN (X : Stand p l e R s m args below meth c T locs cells slots) (hx : p.tables.exec = Jvm.exec) (hby : c.code = bs) {n : Fin 4} {x x' : Int32} (hd : decode bs pc = .ok (.istore_n n, 1)) (ex : x = x') {l' : Array Slot} (hl : storeLocals Ls n.val (.int x') = some l') (pc' : Nat) (hp : pc + 1 = pc') (k : Go p e below G T (mkF m pc' l' st)) : Go p e below G T (mkF m pc Ls (.int x :: st)) := by
  subst hp
  subst ex
  exact Go.by (fun t q => XS.istoreN X.here hx rfl (hb hby hd) rfl hl q) k
theorem own_lload (X : Stand p l e R s m args below meth c T locs cells slots) (hx : p.tables.exec = Jvm.exec) (hby : c.code = bs) {n : Nat} (v : Int64) (hd : decode bs pc = .ok (.lload n, 2)) (hl : Ls[n]? = some (.val (.long v))) (pc' : Nat) (hp : pc + 2 = pc') (k : Go p e below G T (mkF m pc' Ls (.long v :: st))) : Go p e below G T (mkF m pc Ls st) := by
  subst hp
  exact Go.by (fun t q => XS.lload X.here hx rfl (hb hby hd) hl q) k
theorem own_lloadN (X : Stand p l e R s m args below meth c T locs cells slots) (hx : p.tables.exec = Jvm.exec) (hby : c.code = bs) {n : Fin 4} (v : Int64) (hd : decode bs pc = .ok (.lload_n n, 1)) (hl : Ls[n.val]? = some (.val (.long v))) (pc' : Nat) (hp : pc + 1 = pc') (k : Go p e below G T (mkF m pc' Ls (.long v :: st))) : Go p e below G T (mkF m pc Ls st) := by
  subst hp
  exact Go.by (fun t q => XS.lloadN X.here hx rfl (hb hby hd) hl q) k
theorem own_lstore (X : Stand p l e R s m args below meth c T locs cells slots) (hx : p.tables.exec = Jvm.exec) (hby : c.code = bs) {n : Nat} {x x' : Int64} (hd : decode bs pc = .ok (.lstore n, 2)) (ex : x = x') {l' : Array Slot} (hl : storeLocals Ls n (.long x') = some l') (pc' : Nat) (hp : pc + 2 = pc') (k : Go p e below G T (mkF m pc' l' st)) : Go p e below G T (mkF m pc Ls (.long x :: st)) := by
  subst hp
  subst ex
  exact Go.by (fun t q => XS.lstore X.here hx rfl (hb hby hd) rfl hl q) k
theorem own_lstoreN (X : Stand p l e R s m args below meth c T locs cells slots) (hx : p.tables.exec = Jvm.exec) (hby : c.code = bs) {n : Fin 4} {x x' : Int64} (hd : decode bs pc = .ok (.lstore_n n, 1)) (ex : x = x') {l' : Array Slot} (hl : storeLocals Ls n.val (.long x') = some l') (pc' : Nat) (hp : pc + 1 = pc') (k : Go p e below G T (mkF m pc' l' st)) : Go p e below G T (mkF m pc Ls (.long x :: st)) := by
  subst hp
  subst ex
  exact Go.by (fun t q => XS.lstoreN X.here hx rfl (hb hby hd) rfl hl q) k
theorem own_aload (X : Stand p l e R s m args below meth c T locs cells slots) (hx : p.tables.exec = Jvm.exec) (hby : c.code = bs) {n : Nat} (v : Value) (hd : decode bs pc = .ok (.aload n, 2)) (hl : Ls[n]? = some (.val v)) (hv : v.isRef = true) (pc' : Nat) (hp : pc + 2 = pc') (k : Go p e below G T (mkF m pc' Ls (v :: st))) : Go p e below G T (mkF m pc Ls st) := by
  subst hp
  exact Go.by (fun t q => XS.aload X.here hx rfl (hb hby hd) hl hv q) k
theorem own_aloadN (X : Stand p l e R s m args below meth c T locs cells slots) (hx : p.tables.exec = Jvm.exec) (hby : c.code = bs) {n : Fin 4} (v : Value) (hd : decode bs pc = .ok (.aload_n n, 1)) (hl : Ls[n.val]? = some (.val v)) (hv : v.isRef = true) (pc' : Nat) (hp : pc + 1 = pc') (k : Go p e below G T (mkF m pc' Ls (v :: st))) : Go p e below G T (mkF m pc Ls st) := by
  subst hp
  exact Go.by (fun t q => XS.aloadN X.here hx rfl (hb hby hd) hl hv q) k
theorem own_astore (X : Stand p l e R s m args below meth c T locs cells slots) (hx : p.tables.exec = Jvm.exec) (hby : c.code = bs) {n : Nat} {x : Value} (hd : decode bs pc = .ok (.astore n, 2)) (hv : x.isRef = true) {l' : Array Slot} (hl : storeLocals Ls n x = some l') (pc' : Nat) (hp : pc + 2 = pc') (k : Go p e below G T (mkF m pc' l' st)) : Go p e below G T (mkF m pc Ls (x :: st)) := by
  subst hp
  exact Go.by (fun t q => XS.astore X.here hx rfl (hb hby hd) rfl hv hl q) k
theorem own_astoreN (X : Stand p l e R s m args below meth c T locs cells slots) (hx : p.tables.exec = Jvm.exec) (hby : c.code = bs) {n : Fin 4} {x : Value} (hd : decode bs pc = .ok (.astore_n n, 1)) (hv : x.isRef = true) {l' : Array Slot} (hl : storeLocals Ls n.val x = some l') (pc' : Nat) (hp : pc + 1 = pc') (k : Go p e below G T (mkF m pc' l' st)) : Go p e below G T (mkF m pc Ls (x :: st)) := by
  subst hp
  exact Go.by (fun t q => XS.astoreN X.here hx rfl (hb hby hd) rfl hv hl q) k
theorem own_iconst (X : Stand p l e R s m args below meth c T locs cells slots) (hx : p.tables.exec = Jvm.exec) (hby : c.code = bs) {i : Int} (v : Int32) (hd : decode bs pc = .ok (.iconst i, 1)) (hv : Int32.ofInt i = v) (pc' : Nat) (hp : pc + 1 = pc') (k : Go p e below G T (mkF m pc' Ls (.int v :: st))) : Go p e below G T (mkF m pc Ls st) := by
  subst hp
  subst hv
  exact Go.by (fun t q => XS.iconst X.here hx rfl (hb hby hd) q) k
theorem own_bipush (X : Stand p l e R s m args below meth c T locs cells slots) (hx : p.tables.exec = Jvm.exec) (hby : c.code = bs) {i : Int} (v : Int32) (hd : decode bs pc = .ok (.bipush i, 2)) (hv : (Int8.ofInt i).toInt32 = v) (pc' : Nat) (hp : pc + 2 = pc') (k : Go p e below G T (mkF m pc' Ls (.int v :: st))) : Go p e below G T (mkF m pc Ls st) := by
  subst hp
  subst hv
  exact Go.by (fun t q => XS.bipush X.here hx rfl (hb hby hd) q) k
theorem own_sipush (X : Stand p l e R s m args below meth c T locs cells slots) (hx : p.tables.exec = Jvm.exec) (hby : c.code = bs) {i : Int} (v : Int32) (hd : decode bs pc = .ok (.sipush i, 3)) (hv : (Int16.ofInt i).toInt32 = v) (pc' : Nat) (hp : pc + 3 = pc') (k : Go p e below G T (mkF m pc' Ls (.int v :: st))) : Go p e below G T (mkF m pc Ls st) := by
  subst hp
  subst hv
  exact Go.by (fun t q => XS.sipush X.here hx rfl (hb hby hd) q) k
theorem own_lconst (X : Stand p l e R s m args below meth c T locs cells slots) (hx : p.tables.exec = Jvm.exec) (hby : c.code = bs) {i : Fin 2} (v : Int64) (hd : decode bs pc = .ok (.lconst i, 1)) (hv : Int64.ofNat i = v) (pc' : Nat) (hp : pc + 1 = pc') (k : Go p e below G T (mkF m pc' Ls (.long v :: st))) : Go p e below G T (mkF m pc Ls st) := by
  subst hp
  subst hv
  exact Go.by (fun t q => XS.lconst X.here hx rfl (hb hby hd) q) k
theorem own_aconstNull (X : Stand p l e R s m args below meth c T locs cells slots) (hx : p.tables.exec = Jvm.exec) (hby : c.code = bs)  (hd : decode bs pc = .ok (.aconst_null, 1))  (pc' : Nat) (hp : pc + 1 = pc') (k : Go p e below G T (mkF m pc' Ls (.null :: st))) : Go p e below G T (mkF m pc Ls st) := by
  subst hp
  exact Go.by (fun t q => XS.aconstNull X.here hx rfl (hb hby hd) q) k
theorem own_iadd (X : Stand p l e R s m args below meth c T locs cells slots) (hx : p.tables.exec = Jvm.exec) (hby : c.code = bs) {x y : Int32} (hd : decode bs pc = .ok (.iadd, 1))  (pc' : Nat) (hp : pc + 1 = pc') (k : Go p e below G T (mkF m pc' Ls (.int (x + y) :: st))) : Go p e below G T (mkF m pc Ls (.int y :: .int x :: st)) := by
  subst hp
  exact Go.by (fun t q => XS.iadd X.here hx rfl (hb hby hd) rfl q) k
theorem own_isub (X : Stand p l e R s m args below meth c T locs cells slots) (hx : p.tables.exec = Jvm.exec) (hby : c.code = bs) {x y : Int32} (hd : decode bs pc = .ok (.isub, 1))  (pc' : Nat) (hp : pc + 1 = pc') (k : Go p e below G T (mkF m pc' Ls (.int (x - y) :: st))) : Go p e below G T (mkF m pc Ls (.int y :: .int x :: st)) := by
  subst hp
  exact Go.by (fun t q => XS.isub X.here hx rfl (hb hby hd) rfl q) k
theorem own_imul (X : Stand p l e R s m args below meth c T locs cells slots) (hx : p.tables.exec = Jvm.exec) (hby : c.code = bs) {x y : Int32} (hd : decode bs pc = .ok (.imul, 1))  (pc' : Nat) (hp : pc + 1 = pc') (k : Go p e below G T (mkF m pc' Ls (.int (x * y) :: st))) : Go p e below G T (mkF m pc Ls (.int y :: .int x :: st)) := by
  subst hp
  exact Go.by (fun t q => XS.imul X.here hx rfl (hb hby hd) rfl q) k
theorem own_iand (X : Stand p l e R s m args below meth c T locs cells slots) (hx : p.tables.exec = Jvm.exec) (hby : c.code = bs) {x y : Int32} (hd : decode bs pc = .ok (.iand, 1))  (pc' : Nat) (hp : pc + 1 = pc') (k : Go p e below G T (mkF m pc' Ls (.int (x &&& y) :: st))) : Go p e below G T (mkF m pc Ls (.int y :: .int x :: st)) := by
  subst hp
  exact Go.by (fun t q => XS.iand X.here hx rfl (hb hby hd) rfl q) k
theorem own_ior (X : Stand p l e R s m args below meth c T locs cells slots) (hx : p.tables.exec = Jvm.exec) (hby : c.code = bs) {x y : Int32} (hd : decode bs pc = .ok (.ior, 1))  (pc' : Nat) (hp : pc + 1 = pc') (k : Go p e below G T (mkF m pc' Ls (.int (x ||| y) :: st))) : Go p e below G T (mkF m pc Ls (.int y :: .int x :: st)) := by
  subst hp
  exact Go.by (fun t q => XS.ior X.here hx rfl (hb hby hd) rfl q) k
theorem own_ixor (X : Stand p l e R s m args below meth c T locs cells slots) (hx : p.tables.exec = Jvm.exec) (hby : c.code = bs) {x y : Int32} (hd : decode bs pc = .ok (.ixor, 1))  (pc' : Nat) (hp : pc + 1 = pc') (k : Go p e below G T (mkF m pc' Ls (.int (x ^^^ y) :: st))) : Go p e below G T (mkF m pc Ls (.int y :: .int x :: st)) := by
  subst hp
  exact Go.by (fun t q => XS.ixor X.here hx rfl (hb hby hd) rfl q) k
theorem own_ishl (X : Stand p l e R s m args below meth c T locs cells slots) (hx : p.tables.exec = Jvm.exec) (hby : c.code = bs) {x y : Int32} (hd : decode bs pc = .ok (.ishl, 1))  (pc' : Nat) (hp : pc + 1 = pc') (k : Go p e below G T (mkF m pc' Ls (.int (x <<< (y &&& 31)) :: st))) : Go p e below G T (mkF m pc Ls (.int y :: .int x :: st)) := by
  subst hp
  exact Go.by (fun t q => XS.ishl X.here hx rfl (hb hby hd) rfl q) k
theorem own_ishr (X : Stand p l e R s m args below meth c T locs cells slots) (hx : p.tables.exec = Jvm.exec) (hby : c.code = bs) {x y : Int32} (hd : decode bs pc = .ok (.ishr, 1))  (pc' : Nat) (hp : pc + 1 = pc') (k : Go p e below G T (mkF m pc' Ls (.int (x >>> (y &&& 31)) :: st))) : Go p e below G T (mkF m pc Ls (.int y :: .int x :: st)) := by
  subst hp
  exact Go.by (fun t q => XS.ishr X.here hx rfl (hb hby hd) rfl q) k
theorem own_iushr (X : Stand p l e R s m args below meth c T locs cells slots) (hx : p.tables.exec = Jvm.exec) (hby : c.code = bs) {x y : Int32} (hd : decode bs pc = .ok (.iushr, 1))  (pc' : Nat) (hp : pc + 1 = pc') (k : Go p e below G T (mkF m pc' Ls (.int ((x.toUInt32 >>> (y &&& 31).toUInt32).toInt32) :: st))) : Go p e below G T (mkF m pc Ls (.int y :: .int x :: st)) := by
  subst hp
  exact Go.by (fun t q => XS.iushr X.here hx rfl (hb hby hd) rfl q) k
theorem own_ladd (X : Stand p l e R s m args below meth c T locs cells slots) (hx : p.tables.exec = Jvm.exec) (hby : c.code = bs) {x y : Int64} (hd : decode bs pc = .ok (.ladd, 1))  (pc' : Nat) (hp : pc + 1 = pc') (k : Go p e below G T (mkF m pc' Ls (.long (x + y) :: st))) : Go p e below G T (mkF m pc Ls (.long y :: .long x :: st)) := by
  subst hp
  exact Go.by (fun t q => XS.ladd X.here hx rfl (hb hby hd) rfl q) k
theorem own_lsub (X : Stand p l e R s m args below meth c T locs cells slots) (hx : p.tables.exec = Jvm.exec) (hby : c.code = bs) {x y : Int64} (hd : decode bs pc = .ok (.lsub, 1))  (pc' : Nat) (hp : pc + 1 = pc') (k : Go p e below G T (mkF m pc' Ls (.long (x - y) :: st))) : Go p e below G T (mkF m pc Ls (.long y :: .long x :: st)) := by
  subst hp
  exact Go.by (fun t q => XS.lsub X.here hx rfl (hb hby hd) rfl q) k
theorem own_lmul (X : Stand p l e R s m args below meth c T locs cells slots) (hx : p.tables.exec = Jvm.exec) (hby : c.code = bs) {x y : Int64} (hd : decode bs pc = .ok (.lmul, 1))  (pc' : Nat) (hp : pc + 1 = pc') (k : Go p e below G T (mkF m pc' Ls (.long (x * y) :: st))) : Go p e below G T (mkF m pc Ls (.long y :: .long x :: st)) := by
  subst hp
  exact Go.by (fun t q => XS.lmul X.here hx rfl (hb hby hd) rfl q) k
theorem own_land (X : Stand p l e R s m args below meth c T locs cells slots) (hx : p.tables.exec = Jvm.exec) (hby : c.code = bs) {x y : Int64} (hd : decode bs pc = .ok (.land, 1))  (pc' : Nat) (hp : pc + 1 = pc') (k : Go p e below G T (mkF m pc' Ls (.long (x &&& y) :: st))) : Go p e below G T (mkF m pc Ls (.long y :: .long x :: st)) := by
  subst hp
  exact Go.by (fun t q => XS.land X.here hx rfl (hb hby hd) rfl q) k
theorem own_lor (X : Stand p l e R s m args below meth c T locs cells slots) (hx : p.tables.exec = Jvm.exec) (hby : c.code = bs) {x y : Int64} (hd : decode bs pc = .ok (.lor, 1))  (pc' : Nat) (hp : pc + 1 = pc') (k : Go p e below G T (mkF m pc' Ls (.long (x ||| y) :: st))) : Go p e below G T (mkF m pc Ls (.long y :: .long x :: st)) := by
  subst hp
  exact Go.by (fun t q => XS.lor X.here hx rfl (hb hby hd) rfl q) k
theorem own_lxor (X : Stand p l e R s m args below meth c T locs cells slots) (hx : p.tables.exec = Jvm.exec) (hby : c.code = bs) {x y : Int64} (hd : decode bs pc = .ok (.lxor, 1))  (pc' : Nat) (hp : pc + 1 = pc') (k : Go p e below G T (mkF m pc' Ls (.long (x ^^^ y) :: st))) : Go p e below G T (mkF m pc Ls (.long y :: .long x :: st)) := by
  subst hp
  exact Go.by (fun t q => XS.lxor X.here hx rfl (hb hby hd) rfl q) k
theorem own_lshl (X : Stand p l e R s m args below meth c T locs cells slots) (hx : p.tables.exec = Jvm.exec) (hby : c.code = bs) {x : Int64} {y : Int32} (hd : decode bs pc = .ok (.lshl, 1))  (pc' : Nat) (hp : pc + 1 = pc') (k : Go p e below G T (mkF m pc' Ls (.long (x <<< (y &&& 0x3f).toInt64) :: st))) : Go p e below G T (mkF m pc Ls (.int y :: .long x :: st)) := by
  subst hp
  exact Go.by (fun t q => XS.lshl X.here hx rfl (hb hby hd) rfl q) k
theorem own_lshr (X : Stand p l e R s m args below meth c T locs cells slots) (hx : p.tables.exec = Jvm.exec) (hby : c.code = bs) {x : Int64} {y : Int32} (hd : decode bs pc = .ok (.lshr, 1))  (pc' : Nat) (hp : pc + 1 = pc') (k : Go p e below G T (mkF m pc' Ls (.long (x >>> (y &&& 0x3f).toInt64) :: st))) : Go p e below G T (mkF m pc Ls (.int y :: .long x :: st)) := by
  subst hp
  exact Go.by (fun t q => XS.lshr X.here hx rfl (hb hby hd) rfl q) k
theorem own_lushr (X : Stand p l e R s m args below meth c T locs cells slots) (hx : p.tables.exec = Jvm.exec) (hby : c.code = bs) {x : Int64} {y : Int32} (hd : decode bs pc = .ok (.lushr, 1))  (pc' : Nat) (hp : pc + 1 = pc') (k : Go p e below G T (mkF m pc' Ls (.long ((x.toUInt64 >>> (y &&& 0x3f).toInt64.toUInt64).toInt64) :: st))) : Go p e below G T (mkF m pc Ls (.int y :: .long x :: st)) := by
  subst hp
  exact Go.by (fun t q => XS.lushr X.here hx rfl (hb hby hd) rfl q) k
theorem own_ineg (X : Stand p l e R s m args below meth c T locs cells slots) (hx : p.tables.exec = Jvm.exec) (hby : c.code = bs) {x : Int32} (hd : decode bs pc = .ok (.ineg, 1))  (pc' : Nat) (hp : pc + 1 = pc') (k : Go p e below G T (mkF m pc' Ls (.int (-x) :: st))) : Go p e below G T (mkF m pc Ls (.int x :: st)) := by
  subst hp
  exact Go.by (fun t q => XS.ineg X.here hx rfl (hb hby hd) rfl q) k
theorem own_lneg (X : Stand p l e R s m args below meth c T locs cells slots) (hx : p.tables.exec = Jvm.exec) (hby : c.code = bs) {x : Int64} (hd : decode bs pc = .ok (.lneg, 1))  (pc' : Nat) (hp : pc + 1 = pc') (k : Go p e below G T (mkF m pc' Ls (.long (-x) :: st))) : Go p e below G T (mkF m pc Ls (.long x :: st)) := by
  subst hp
  exact Go.by (fun t q => XS.lneg X.here hx rfl (hb hby hd) rfl q) k
theorem own_i2l (X : Stand p l e R s m args below meth c T locs cells slots) (hx : p.tables.exec = Jvm.exec) (hby : c.code = bs) {x : Int32} (hd : decode bs pc = .ok (.i2l, 1))  (pc' : Nat) (hp : pc + 1 = pc') (k : Go p e below G T (mkF m pc' Ls (.long (x.toInt64) :: st))) : Go p e below G T (mkF m pc Ls (.int x :: st)) := by
  subst hp
  exact Go.by (fun t q => XS.i2l X.here hx rfl (hb hby hd) rfl q) k
theorem own_l2i (X : Stand p l e R s m args below meth c T locs cells slots) (hx : p.tables.exec = Jvm.exec) (hby : c.code = bs) {x : Int64} (hd : decode bs pc = .ok (.l2i, 1))  (pc' : Nat) (hp : pc + 1 = pc') (k : Go p e below G T (mkF m pc' Ls (.int (x.toInt32) :: st))) : Go p e below G T (mkF m pc Ls (.long x :: st)) := by
  subst hp
  exact Go.by (fun t q => XS.l2i X.here hx rfl (hb hby hd) rfl q) k
theorem own_i2b (X : Stand p l e R s m args below meth c T locs cells slots) (hx : p.tables.exec = Jvm.exec) (hby : c.code = bs) {x : Int32} (hd : decode bs pc = .ok (.i2b, 1))  (pc' : Nat) (hp : pc + 1 = pc') (k : Go p e below G T (mkF m pc' Ls (.int (x.toInt8.toInt32) :: st))) : Go p e below G T (mkF m pc Ls (.int x :: st)) := by
  subst hp
  exact Go.by (fun t q => XS.i2b X.here hx rfl (hb hby hd) rfl q) k
theorem own_i2s (X : Stand p l e R s m args below meth c T locs cells slots) (hx : p.tables.exec = Jvm.exec) (hby : c.code = bs) {x : Int32} (hd : decode bs pc = .ok (.i2s, 1))  (pc' : Nat) (hp : pc + 1 = pc') (k : Go p e below G T (mkF m pc' Ls (.int (x.toInt16.toInt32) :: st))) : Go p e below G T (mkF m pc Ls (.int x :: st)) := by
  subst hp
  exact Go.by (fun t q => XS.i2s X.here hx rfl (hb hby hd) rfl q) k
theorem own_i2c (X : Stand p l e R s m args below meth c T locs cells slots) (hx : p.tables.exec = Jvm.exec) (hby : c.code = bs) {x : Int32} (hd : decode bs pc = .ok (.i2c, 1))  (pc' : Nat) (hp : pc + 1 = pc') (k : Go p e below G T (mkF m pc' Ls (.int (x.toUInt32.toUInt16.toUInt32.toInt32) :: st))) : Go p e below G T (mkF m pc Ls (.int x :: st)) := by
  subst hp
  exact Go.by (fun t q => XS.i2c X.here hx rfl (hb hby hd) rfl q) k
theorem own_idiv (X : Stand p l e R s m args below meth c T locs cells slots) (hx : p.tables.exec = Jvm.exec) (hby : c.code = bs) {x y : Int32} (hd : decode bs pc = .ok (.idiv, 1)) (hy : y ≠ 0) (pc' : Nat) (hp : pc + 1 = pc') (k : Go p e below G T (mkF m pc' Ls (.int (x / y) :: st))) : Go p e below G T (mkF m pc Ls (.int y :: .int x :: st)) := by
  subst hp
  exact Go.by (fun t q => XS.idiv X.here hx rfl (hb hby hd) rfl hy q) k
theorem own_ldiv (X : Stand p l e R s m args below meth c T locs cells slots) (hx : p.tables.exec = Jvm.exec) (hby : c.code = bs) {x y : Int64} (hd : decode bs pc = .ok (.ldiv, 1)) (hy : y ≠ 0) (pc' : Nat) (hp : pc + 1 = pc') (k : Go p e below G T (mkF m pc' Ls (.long (x / y) :: st))) : Go p e below G T (mkF m pc Ls (.long y :: .long x :: st)) := by
  subst hp
  exact Go.by (fun t q => XS.ldiv X.here hx rfl (hb hby hd) rfl hy q) k
theorem own_irem (X : Stand p l e R s m args below meth c T locs cells slots) (hx : p.tables.exec = Jvm.exec) (hby : c.code = bs) {x y : Int32} (hd : decode bs pc = .ok (.irem, 1)) (hy : y ≠ 0) (pc' : Nat) (hp : pc + 1 = pc') (k : Go p e below G T (mkF m pc' Ls (.int (x % y) :: st))) : Go p e below G T (mkF m pc Ls (.int y :: .int x :: st)) := by
  subst hp
  exact Go.by (fun t q => iremM X hx rfl (hb hby hd) rfl hy q) k
theorem own_lrem (X : Stand p l e R s m args below meth c T locs cells slots) (hx : p.tables.exec = Jvm.exec) (hby : c.code = bs) {x y : Int64} (hd : decode bs pc = .ok (.lrem, 1)) (hy : y ≠ 0) (pc' : Nat) (hp : pc + 1 = pc') (k : Go p e below G T (mkF m pc' Ls (.long (x % y) :: st))) : Go p e below G T (mkF m pc Ls (.long y :: .long x :: st)) := by
  subst hp
  rw [← lrem_mod] at k
  exact Go.by (fun t q => XS.lrem X.here hx rfl (hb hby hd) rfl hy q) k
theorem own_iinc (X : Stand p l e R s m args below meth c T locs cells slots) (hx : p.tables.exec = Jvm.exec) (hby : c.code = bs) {n : Nat} {cst : Int} {x x' : Int32} (hd : decode bs pc = .ok (.iinc n cst, 3)) (hl : Ls[n]? = some (.val (.int x))) (ex : x + Int32.ofInt cst = x') {l' : Array Slot} (hl' : storeLocals Ls n (.int x') = some l') (pc' : Nat) (hp : pc + 3 = pc') (k : Go p e below G T (mkF m pc' l' st)) : Go p e below G T (mkF m pc Ls st) := by
  subst hp
  subst ex
  exact Go.by (fun t q => XS.iinc X.here hx rfl (hb hby hd) hl hl' q) k
theorem own_dup (X : Stand p l e R s m args below meth c T locs cells slots) (hx : p.tables.exec = Jvm.exec) (hby : c.code = bs) {x : Value} (hd : decode bs pc = .ok (.dup, 1)) (hc : x.category = 1) (pc' : Nat) (hp : pc + 1 = pc') (k : Go p e below G T (mkF m pc' Ls (x :: x :: st))) : Go p e below G T (mkF m pc Ls (x :: st)) := by
  subst hp
  exact Go.by (fun t q => XS.dup X.here hx rfl (hb hby hd) rfl hc q) k
theorem own_pop (X : Stand p l e R s m args below meth c T locs cells slots) (hx : p.tables.exec = Jvm.exec) (hby : c.code = bs) {x : Value} (hd : decode bs pc = .ok (.pop, 1)) (hc : x.category = 1) (pc' : Nat) (hp : pc + 1 = pc') (k : Go p e below G T (mkF m pc' Ls st)) : Go p e below G T (mkF m pc Ls (x :: st)) := by
  subst hp
  exact Go.by (fun t q => XS.pop X.here hx rfl (hb hby hd) rfl hc q) k
theorem own_dupX1 (X : Stand p l e R s m args below meth c T locs cells slots) (hx : p.tables.exec = Jvm.exec) (hby : c.code = bs) {x y : Value} (hd : decode bs pc = .ok (.dup_x1, 1)) (hc : x.category = 1) (hc2 : y.category = 1) (pc' : Nat) (hp : pc + 1 = pc') (k : Go p e below G T (mkF m pc' Ls (x :: y :: x :: st))) : Go p e below G T (mkF m pc Ls (x :: y :: st)) := by
  subst hp
  exact Go.by (fun t q => XS.dupX1 X.here hx rfl (hb hby hd) rfl hc hc2 q) k
theorem own_dup2 (X : Stand p l e R s m args below meth c T locs cells slots) (hx : p.tables.exec = Jvm.exec) (hby : c.code = bs) {x y : Value} (hd : decode bs pc = .ok (.dup2, 1)) (hc : x.category = 1) (hc2 : y.category = 1) (pc' : Nat) (hp : pc + 1 = pc') (k : Go p e below G T (mkF m pc' Ls (x :: y :: x :: y :: st))) : Go p e below G T (mkF m pc Ls (x :: y :: st)) := by
  subst hp
  exact Go.by (fun t q => XT.dup2 X.here hx rfl (hb hby hd) rfl hc hc2 q) k
theorem own_dup2L (X : Stand p l e R s m args below meth c T locs cells slots) (hx : p.tables.exec = Jvm.exec) (hby : c.code = bs) {x : Int64} (hd : decode bs pc = .ok (.dup2, 1))  (pc' : Nat) (hp : pc + 1 = pc') (k : Go p e below G T (mkF m pc' Ls (.long x :: .long x :: st))) : Go p e below G T (mkF m pc Ls (.long x :: st)) := by
  subst hp
  exact Go.by (fun t q => XT.dup2L X.here hx rfl (hb hby hd) rfl q) k
theorem own_goto (X : Stand p l e R s m args below meth c T locs cells slots) (hx : p.tables.exec = Jvm.exec) (hby : c.code = bs) {o : Int} (hd : decode bs pc = .ok (.goto o, 3)) (pc' : Nat) (hp : 0 ≤ (pc : Int) + o ∧ ((pc : Int) + o).toNat = pc') (k : Go p e below G T (mkF m pc' Ls st)) : Go p e below G T (mkF m pc Ls st) :=
  Go.by (fun t q => XS.goto X.here hx rfl rfl (hb hby hd) hp.1 hp.2 q) k
theorem own_top {v v' : Value} (q : v = v') (k : Go p e below G T (mkF m pc Ls (v' :: st))) : Go p e below G T (mkF m pc Ls (v :: st)) := q ▸ k
theorem own_icmp_eq (X : Stand p l e R s m args below meth c T locs cells slots) (hx : p.tables.exec = Jvm.exec) (hby : c.code = bs) {o : Int} {x y : Int32} (hd : decode bs pc = .ok (.if_icmp .eq o, 3)) (pT pF : Nat) (hp : 0 ≤ (pc : Int) + o ∧ ((pc : Int) + o).toNat = pT) (hpF : pc + 3 = pF) (kT : x = y → Go p e below G T (mkF m pT Ls st)) (kF : ¬ x = y → Go p e below G T (mkF m pF Ls st)) : Go p e below G T (mkF m pc Ls (.int y :: .int x :: st)) := by
  subst hpF
  by_cases q0 : x = y
  · have q := q0
    exact Go.by (fun t r => XS.icmpYes X.here hx rfl rfl (hb hby hd) rfl (teq q).1 hp.1 hp.2 r) (kT q0)
  · have q : ¬ x = y := by first | exact q0 | exact Classical.not_not.mp q0
    exact Go.by (fun t r => XS.icmpNo X.here hx rfl (hb hby hd) rfl (feq q).1 r) (kF q)
theorem own_if_eq (X : Stand p l e R s m args below meth c T locs cells slots) (hx : p.tables.exec = Jvm.exec) (hby : c.code = bs) {o : Int} {x : Int32} (hd : decode bs pc = .ok (.ifCond .eq o, 3)) (pT pF : Nat) (hp : 0 ≤ (pc : Int) + o ∧ ((pc : Int) + o).toNat = pT) (hpF : pc + 3 = pF) (kT : x = (0 : Int32) → Go p e below G T (mkF m pT Ls st)) (kF : ¬ x = (0 : Int32) → Go p e below G T (mkF m pF Ls st)) : Go p e below G T (mkF m pc Ls (.int x :: st)) := by
  subst hpF
  by_cases q0 : x = (0 : Int32)
  · have q := q0
    exact Go.by (fun t r => XS.ifYes X.here hx rfl rfl (hb hby hd) rfl ((if0 _ _).trans (teq q).1) hp.1 hp.2 r) (kT q0)
  · have q : ¬ x = (0 : Int32) := by first | exact q0 | exact Classical.not_not.mp q0
    exact Go.by (fun t r => XS.ifNo X.here hx rfl (hb hby hd) rfl ((if0 _ _).trans (feq q).1) r) (kF q)
theorem own_lcmp_eq (X : Stand p l e R s m args below meth c T locs cells slots) (hx : p.tables.exec = Jvm.exec) (hby : c.code = bs) {o : Int} {x y : Int64} (hd : decode bs pc = .ok (.lcmp, 1)) (hd2 : decode bs (pc + 1) = .ok (.ifCond .eq o, 3)) (pT pF : Nat) (hp : 0 ≤ ((pc + 1 : Nat) : Int) + o ∧ (((pc + 1 : Nat) : Int) + o).toNat = pT) (hpF : pc + 4 = pF) (kT : x = y → Go p e below G T (mkF m pT Ls st)) (kF : ¬ x = y → Go p e below G T (mkF m pF Ls st)) : Go p e below G T (mkF m pc Ls (.long y :: .long x :: st)) := by
  refine Go.by (fun t r => XS.lcmp X.here hx rfl (hb hby hd) rfl r) (g' := mkF m (pc + 1) Ls (.int (lcmpW x y) :: st)) ?_
  refine own_if_eq X hx hby hd2 pT pF hp (by omega) (fun q => kT ?_) (fun q => kF ?_)
  · exact (lw_eq x y).mp q
  · exact fun r => q ((lw_eq x y).mpr r)
theorem own_icmp_ne (X : Stand p l e R s m args below meth c T locs cells slots) (hx : p.tables.exec = Jvm.exec) (hby : c.code = bs) {o : Int} {x y : Int32} (hd : decode bs pc = .ok (.if_icmp .ne o, 3)) (pT pF : Nat) (hp : 0 ≤ (pc : Int) + o ∧ ((pc : Int) + o).toNat = pT) (hpF : pc + 3 = pF) (kT : ¬ x = y → Go p e below G T (mkF m pT Ls st)) (kF : x = y → Go p e below G T (mkF m pF Ls st)) : Go p e below G T (mkF m pc Ls (.int y :: .int x :: st)) := by
  subst hpF
  by_cases q0 : ¬ x = y
  · have q := q0
    exact Go.by (fun t r => XS.icmpYes X.here hx rfl rfl (hb hby hd) rfl (feq q).2 hp.1 hp.2 r) (kT q0)
  · have q : x = y := by first | exact q0 | exact Classical.not_not.mp q0
    exact Go.by (fun t r => XS.icmpNo X.here hx rfl (hb hby hd) rfl (teq q).2 r) (kF q)
theorem own_if_ne (X : Stand p l e R s m args below meth c T locs cells slots) (hx : p.tables.exec = Jvm.exec) (hby : c.code = bs) {o : Int} {x : Int32} (hd : decode bs pc = .ok (.ifCond .ne o, 3)) (pT pF : Nat) (hp : 0 ≤ (pc : Int) + o ∧ ((pc : Int) + o).toNat = pT) (hpF : pc + 3 = pF) (kT : ¬ x = (0 : Int32) → Go p e below G T (mkF m pT Ls st)) (kF : x = (0 : Int32) → Go p e below G T (mkF m pF Ls st)) : Go p e below G T (mkF m pc Ls (.int x :: st)) := by
  subst hpF
  by_cases q0 : ¬ x = (0 : Int32)
  · have q := q0
    exact Go.by (fun t r => XS.ifYes X.here hx rfl rfl (hb hby hd) rfl ((if0 _ _).trans (feq q).2) hp.1 hp.2 r) (kT q0)
  · have q : x = (0 : Int32) := by first | exact q0 | exact Classical.not_not.mp q0
    exact Go.by (fun t r => XS.ifNo X.here hx rfl (hb hby hd) rfl ((if0 _ _).trans (teq q).2) r) (kF q)
theorem own_lcmp_ne (X : Stand p l e R s m args below meth c T locs cells slots) (hx : p.tables.exec = Jvm.exec) (hby : c.code = bs) {o : Int} {x y : Int64} (hd : decode bs pc = .ok (.lcmp, 1)) (hd2 : decode bs (pc + 1) = .ok (.ifCond .ne o, 3)) (pT pF : Nat) (hp : 0 ≤ ((pc + 1 : Nat) : Int) + o ∧ (((pc + 1 : Nat) : Int) + o).toNat = pT) (hpF : pc + 4 = pF) (kT : ¬ x = y → Go p e below G T (mkF m pT Ls st)) (kF : x = y → Go p e below G T (mkF m pF Ls st)) : Go p e below G T (mkF m pc Ls (.long y :: .long x :: st)) := by
  refine Go.by (fun t r => XS.lcmp X.here hx rfl (hb hby hd) rfl r) (g' := mkF m (pc + 1) Ls (.int (lcmpW x y) :: st)) ?_
  refine own_if_ne X hx hby hd2 pT pF hp (by omega) (fun q => kT ?_) (fun q => kF ?_)
  · exact fun r => q ((lw_eq x y).mpr r)
  · exact (lw_eq x y).mp q
theorem own_icmp_lt (X : Stand p l e R s m args below meth c T locs cells slots) (hx : p.tables.exec = Jvm.exec) (hby : c.code = bs) {o : Int} {x y : Int32} (hd : decode bs pc = .ok (.if_icmp .lt o, 3)) (pT pF : Nat) (hp : 0 ≤ (pc : Int) + o ∧ ((pc : Int) + o).toNat = pT) (hpF : pc + 3 = pF) (kT : x < y → Go p e below G T (mkF m pT Ls st)) (kF : ¬ x < y → Go p e below G T (mkF m pF Ls st)) : Go p e below G T (mkF m pc Ls (.int y :: .int x :: st)) := by
  subst hpF
  by_cases q0 : x < y
  · have q := q0
    exact Go.by (fun t r => XS.icmpYes X.here hx rfl rfl (hb hby hd) rfl (tlt q).1 hp.1 hp.2 r) (kT q0)
  · have q : ¬ x < y := by first | exact q0 | exact Classical.not_not.mp q0
    exact Go.by (fun t r => XS.icmpNo X.here hx rfl (hb hby hd) rfl (flt q).1 r) (kF q)
theorem own_if_lt (X : Stand p l e R s m args below meth c T locs cells slots) (hx : p.tables.exec = Jvm.exec) (hby : c.code = bs) {o : Int} {x : Int32} (hd : decode bs pc = .ok (.ifCond .lt o, 3)) (pT pF : Nat) (hp : 0 ≤ (pc : Int) + o ∧ ((pc : Int) + o).toNat = pT) (hpF : pc + 3 = pF) (kT : x < (0 : Int32) → Go p e below G T (mkF m pT Ls st)) (kF : ¬ x < (0 : Int32) → Go p e below G T (mkF m pF Ls st)) : Go p e below G T (mkF m pc Ls (.int x :: st)) := by
  subst hpF
  by_cases q0 : x < (0 : Int32)
  · have q := q0
    exact Go.by (fun t r => XS.ifYes X.here hx rfl rfl (hb hby hd) rfl ((if0 _ _).trans (tlt q).1) hp.1 hp.2 r) (kT q0)
  · have q : ¬ x < (0 : Int32) := by first | exact q0 | exact Classical.not_not.mp q0
    exact Go.by (fun t r => XS.ifNo X.here hx rfl (hb hby hd) rfl ((if0 _ _).trans (flt q).1) r) (kF q)
theorem own_lcmp_lt (X : Stand p l e R s m args below meth c T locs cells slots) (hx : p.tables.exec = Jvm.exec) (hby : c.code = bs) {o : Int} {x y : Int64} (hd : decode bs pc = .ok (.lcmp, 1)) (hd2 : decode bs (pc + 1) = .ok (.ifCond .lt o, 3)) (pT pF : Nat) (hp : 0 ≤ ((pc + 1 : Nat) : Int) + o ∧ (((pc + 1 : Nat) : Int) + o).toNat = pT) (hpF : pc + 4 = pF) (kT : x < y → Go p e below G T (mkF m pT Ls st)) (kF : ¬ x < y → Go p e below G T (mkF m pF Ls st)) : Go p e below G T (mkF m pc Ls (.long y :: .long x :: st)) := by
  refine Go.by (fun t r => XS.lcmp X.here hx rfl (hb hby hd) rfl r) (g' := mkF m (pc + 1) Ls (.int (lcmpW x y) :: st)) ?_
  refine own_if_lt X hx hby hd2 pT pF hp (by omega) (fun q => kT ?_) (fun q => kF ?_)
  · exact (lw_lt x y).mp q
  · exact fun r => q ((lw_lt x y).mpr r)
theorem own_icmp_ge (X : Stand p l e R s m args below meth c T locs cells slots) (hx : p.tables.exec = Jvm.exec) (hby : c.code = bs) {o : Int} {x y : Int32} (hd : decode bs pc = .ok (.if_icmp .ge o, 3)) (pT pF : Nat) (hp : 0 ≤ (pc : Int) + o ∧ ((pc : Int) + o).toNat = pT) (hpF : pc + 3 = pF) (kT : ¬ x < y → Go p e below G T (mkF m pT Ls st)) (kF : x < y → Go p e below G T (mkF m pF Ls st)) : Go p e below G T (mkF m pc Ls (.int y :: .int x :: st)) := by
  subst hpF
  by_cases q0 : ¬ x < y
  · have q := q0
    exact Go.by (fun t r => XS.icmpYes X.here hx rfl rfl (hb hby hd) rfl (flt q).2.1 hp.1 hp.2 r) (kT q0)
  · have q : x < y := by first | exact q0 | exact Classical.not_not.mp q0
    exact Go.by (fun t r => XS.icmpNo X.here hx rfl (hb hby hd) rfl (tlt q).2.1 r) (kF q)
theorem own_if_ge (X : Stand p l e R s m args below meth c T locs cells slots) (hx : p.tables.exec = Jvm.exec) (hby : c.code = bs) {o : Int} {x : Int32} (hd : decode bs pc = .ok (.ifCond .ge o, 3)) (pT pF : Nat) (hp : 0 ≤ (pc : Int) + o ∧ ((pc : Int) + o).toNat = pT) (hpF : pc + 3 = pF) (kT : ¬ x < (0 : Int32) → Go p e below G T (mkF m pT Ls st)) (kF : x < (0 : Int32) → Go p e below G T (mkF m pF Ls st)) : Go p e below G T (mkF m pc Ls (.int x :: st)) := by
  subst hpF
  by_cases q0 : ¬ x < (0 : Int32)
  · have q := q0
    exact Go.by (fun t r => XS.ifYes X.here hx rfl rfl (hb hby hd) rfl ((if0 _ _).trans (flt q).2.1) hp.1 hp.2 r) (kT q0)
  · have q : x < (0 : Int32) := by first | exact q0 | exact Classical.not_not.mp q0
    exact Go.by (fun t r => XS.ifNo X.here hx rfl (hb hby hd) rfl ((if0 _ _).trans (tlt q).2.1) r) (kF q)
theorem own_lcmp_ge (X : Stand p l e R s m args below meth c T locs cells slots) (hx : p.tables.exec = Jvm.exec) (hby : c.code = bs) {o : Int} {x y : Int64} (hd : decode bs pc = .ok (.lcmp, 1)) (hd2 : decode bs (pc + 1) = .ok (.ifCond .ge o, 3)) (pT pF : Nat) (hp : 0 ≤ ((pc + 1 : Nat) : Int) + o ∧ (((pc + 1 : Nat) : Int) + o).toNat = pT) (hpF : pc + 4 = pF) (kT : ¬ x < y → Go p e below G T (mkF m pT Ls st)) (kF : x < y → Go p e below G T (mkF m pF Ls st)) : Go p e below G T (mkF m pc Ls (.long y :: .long x :: st)) := by
  refine Go.by (fun t r => XS.lcmp X.here hx rfl (hb hby hd) rfl r) (g' := mkF m (pc + 1) Ls (.int (lcmpW x y) :: st)) ?_
  refine own_if_ge X hx hby hd2 pT pF hp (by omega) (fun q => kT ?_) (fun q => kF ?_)
  · exact fun r => q ((lw_lt x y).mpr r)
  · exact (lw_lt x y).mp q
theorem own_icmp_gt (X : Stand p l e R s m args below meth c T locs cells slots) (hx : p.tables.exec = Jvm.exec) (hby : c.code = bs) {o : Int} {x y : Int32} (hd : decode bs pc = .ok (.if_icmp .gt o, 3)) (pT pF : Nat) (hp : 0 ≤ (pc : Int) + o ∧ ((pc : Int) + o).toNat = pT) (hpF : pc + 3 = pF) (kT : y < x → Go p e below G T (mkF m pT Ls st)) (kF : ¬ y < x → Go p e below G T (mkF m pF Ls st)) : Go p e below G T (mkF m pc Ls (.int y :: .int x :: st)) := by
  subst hpF
  by_cases q0 : y < x
  · have q := q0
    exact Go.by (fun t r => XS.icmpYes X.here hx rfl rfl (hb hby hd) rfl (tlt q).2.2.1 hp.1 hp.2 r) (kT q0)
  · have q : ¬ y < x := by first | exact q0 | exact Classical.not_not.mp q0
    exact Go.by (fun t r => XS.icmpNo X.here hx rfl (hb hby hd) rfl (flt q).2.2.1 r) (kF q)
theorem own_if_gt (X : Stand p l e R s m args below meth c T locs cells slots) (hx : p.tables.exec = Jvm.exec) (hby : c.code = bs) {o : Int} {x : Int32} (hd : decode bs pc = .ok (.ifCond .gt o, 3)) (pT pF : Nat) (hp : 0 ≤ (pc : Int) + o ∧ ((pc : Int) + o).toNat = pT) (hpF : pc + 3 = pF) (kT : (0 : Int32) < x → Go p e below G T (mkF m pT Ls st)) (kF : ¬ (0 : Int32) < x → Go p e below G T (mkF m pF Ls st)) : Go p e below G T (mkF m pc Ls (.int x :: st)) := by
  subst hpF
  by_cases q0 : (0 : Int32) < x
  · have q := q0
    exact Go.by (fun t r => XS.ifYes X.here hx rfl rfl (hb hby hd) rfl ((if0 _ _).trans (tlt q).2.2.1) hp.1 hp.2 r) (kT q0)
  · have q : ¬ (0 : Int32) < x := by first | exact q0 | exact Classical.not_not.mp q0
    exact Go.by (fun t r => XS.ifNo X.here hx rfl (hb hby hd) rfl ((if0 _ _).trans (flt q).2.2.1) r) (kF q)
theorem own_lcmp_gt (X : Stand p l e R s m args below meth c T locs cells slots) (hx : p.tables.exec = Jvm.exec) (hby : c.code = bs) {o : Int} {x y : Int64} (hd : decode bs pc = .ok (.lcmp, 1)) (hd2 : decode bs (pc + 1) = .ok (.ifCond .gt o, 3)) (pT pF : Nat) (hp : 0 ≤ ((pc + 1 : Nat) : Int) + o ∧ (((pc + 1 : Nat) : Int) + o).toNat = pT) (hpF : pc + 4 = pF) (kT : y < x → Go p e below G T (mkF m pT Ls st)) (kF : ¬ y < x → Go p e below G T (mkF m pF Ls st)) : Go p e below G T (mkF m pc Ls (.long y :: .long x :: st)) := by
  refine Go.by (fun t r => XS.lcmp X.here hx rfl (hb hby hd) rfl r) (g' := mkF m (pc + 1) Ls (.int (lcmpW x y) :: st)) ?_
  refine own_if_gt X hx hby hd2 pT pF hp (by omega) (fun q => kT ?_) (fun q => kF ?_)
  · exact (lw_gt x y).mp q
  · exact fun r => q ((lw_gt x y).mpr r)
theorem own_icmp_le (X : Stand p l e R s m args below meth c T locs cells slots) (hx : p.tables.exec = Jvm.exec) (hby : c.code = bs) {o : Int} {x y : Int32} (hd : decode bs pc = .ok (.if_icmp .le o, 3)) (pT pF : Nat) (hp : 0 ≤ (pc : Int) + o ∧ ((pc : Int) + o).toNat = pT) (hpF : pc + 3 = pF) (kT : ¬ y < x → Go p e below G T (mkF m pT Ls st)) (kF : y < x → Go p e below G T (mkF m pF Ls st)) : Go p e below G T (mkF m pc Ls (.int y :: .int x :: st)) := by
  subst hpF
  by_cases q0 : ¬ y < x
  · have q := q0
    exact Go.by (fun t r => XS.icmpYes X.here hx rfl rfl (hb hby hd) rfl (flt q).2.2.2 hp.1 hp.2 r) (kT q0)
  · have q : y < x := by first | exact q0 | exact Classical.not_not.mp q0
    exact Go.by (fun t r => XS.icmpNo X.here hx rfl (hb hby hd) rfl (tlt q).2.2.2 r) (kF q)
theorem own_if_le (X : Stand p l e R s m args below meth c T locs cells slots) (hx : p.tables.exec = Jvm.exec) (hby : c.code = bs) {o : Int} {x : Int32} (hd : decode bs pc = .ok (.ifCond .le o, 3)) (pT pF : Nat) (hp : 0 ≤ (pc : Int) + o ∧ ((pc : Int) + o).toNat = pT) (hpF : pc + 3 = pF) (kT : ¬ (0 : Int32) < x → Go p e below G T (mkF m pT Ls st)) (kF : (0 : Int32) < x → Go p e below G T (mkF m pF Ls st)) : Go p e below G T (mkF m pc Ls (.int x :: st)) := by
  subst hpF
  by_cases q0 : ¬ (0 : Int32) < x
  · have q := q0
    exact Go.by (fun t r => XS.ifYes X.here hx rfl rfl (hb hby hd) rfl ((if0 _ _).trans (flt q).2.2.2) hp.1 hp.2 r) (kT q0)
  · have q : (0 : Int32) < x := by first | exact q0 | exact Classical.not_not.mp q0
    exact Go.by (fun t r => XS.ifNo X.here hx rfl (hb hby hd) rfl ((if0 _ _).trans (tlt q).2.2.2) r) (kF q)
theorem own_lcmp_le (X : Stand p l e R s m args below meth c T locs cells slots) (hx : p.tables.exec = Jvm.exec) (hby : c.code = bs) {o : Int} {x y : Int64} (hd : decode bs pc = .ok (.lcmp, 1)) (hd2 : decode bs (pc + 1) = .ok (.ifCond .le o, 3)) (pT pF : Nat) (hp : 0 ≤ ((pc + 1 : Nat) : Int) + o ∧ (((pc + 1 : Nat) : Int) + o).toNat = pT) (hpF : pc + 4 = pF) (kT : ¬ y < x → Go p e below G T (mkF m pT Ls st)) (kF : y < x → Go p e below G T (mkF m pF Ls st)) : Go p e below G T (mkF m pc Ls (.long y :: .long x :: st)) := by
  refine Go.by (fun t r => XS.lcmp X.here hx rfl (hb hby hd) rfl r) (g' := mkF m (pc + 1) Ls (.int (lcmpW x y) :: st)) ?_
  refine own_if_le X hx hby hd2 pT pF hp (by omega) (fun q => kT ?_) (fun q => kF ?_)
  · exact fun r => q ((lw_gt x y).mpr r)
  · exact (lw_gt x y).mp q
theorem own_ifnullY (X : Stand p l e R s m args below meth c T locs cells slots) (hx : p.tables.exec = Jvm.exec) (hby : c.code = bs) {o : Int}  (hd : decode bs pc = .ok (.ifnull o, 3)) (pc' : Nat) (hp : 0 ≤ (pc : Int) + o ∧ ((pc : Int) + o).toNat = pc') (k : Go p e below G T (mkF m pc' Ls st)) : Go p e below G T (mkF m pc Ls (.null :: st)) :=
  Go.by (fun t q => XS.ifnullYes X.here hx rfl rfl (hb hby hd) rfl hp.1 hp.2 q) k
theorem own_ifnullN (X : Stand p l e R s m args below meth c T locs cells slots) (hx : p.tables.exec = Jvm.exec) (hby : c.code = bs) {o : Int} {b : Addr} (hd : decode bs pc = .ok (.ifnull o, 3)) (pc' : Nat) (hp : pc + 3 = pc') (k : Go p e below G T (mkF m pc' Ls st)) : Go p e below G T (mkF m pc Ls (.ref b :: st)) := by
  subst hp
  exact Go.by (fun t q => XS.ifnullNo X.here hx rfl (hb hby hd) rfl q) k
theorem own_ifnonnullY (X : Stand p l e R s m args below meth c T locs cells slots) (hx : p.tables.exec = Jvm.exec) (hby : c.code = bs) {o : Int} {b : Addr} (hd : decode bs pc = .ok (.ifnonnull o, 3)) (pc' : Nat) (hp : 0 ≤ (pc : Int) + o ∧ ((pc : Int) + o).toNat = pc') (k : Go p e below G T (mkF m pc' Ls st)) : Go p e below G T (mkF m pc Ls (.ref b :: st)) :=
  Go.by (fun t q => XS.ifnonnullYes X.here hx rfl rfl (hb hby hd) rfl hp.1 hp.2 q) k
theorem own_ifnonnullN (X : Stand p l e R s m args below meth c T locs cells slots) (hx : p.tables.exec = Jvm.exec) (hby : c.code = bs) {o : Int}  (hd : decode bs pc = .ok (.ifnonnull o, 3)) (pc' : Nat) (hp : pc + 3 = pc') (k : Go p e below G T (mkF m pc' Ls st)) : Go p e below G T (mkF m pc Ls (.null :: st)) := by
  subst hp
  exact Go.by (fun t q => XS.ifnonnullNo X.here hx rfl (hb hby hd) rfl q) k
theorem own_ldc (X : Stand p l e R s m args below meth c T locs cells slots) (hx : p.tables.exec = Jvm.exec) (hby : c.code = bs) (hZ : Z.Warmed39 s.vm) {own : String} {idx : Nat} (v : Int32) (hown : s.vm.findClass own = some m.cls) (w : (Jvm.Cond.constant own idx v).before a0 Z = true) (hd : decode bs pc = .ok (.ldc idx, 2)) (pc' : Nat) (hp : pc + 2 = pc') (k : Go p e below G T (mkF m pc' Ls (.int v :: st))) : Go p e below G T (mkF m pc Ls st) := by
  subst hp
  exact Go.by (fun t q => X.ldcInt hx hown (mvT hZ w) (g := mkF m pc Ls st) rfl (hb hby hd) t q) k
theorem own_ldc2 (X : Stand p l e R s m args below meth c T locs cells slots) (hx : p.tables.exec = Jvm.exec) (hby : c.code = bs) (hZ : Z.Warmed39 s.vm) {own : String} {idx : Nat} (v : Int64) (hown : s.vm.findClass own = some m.cls) (w : (Jvm.Cond.constantLong own idx v).before a0 Z = true) (hd : decode bs pc = .ok (.ldc2_w idx, 3)) (pc' : Nat) (hp : pc + 3 = pc') (k : Go p e below G T (mkF m pc' Ls (.long v :: st))) : Go p e below G T (mkF m pc Ls st) := by
  subst hp
  exact Go.by (fun t q => X.ldc2Long hx hown (mvT hZ w) (g := mkF m pc Ls st) rfl (hb hby hd) t q) k
theorem own_callS (X : Stand p l e R s m args below meth c T locs cells slots) (hx : p.tables.exec = Jvm.exec) (hby : c.code = bs) (hZ : Z.Warmed39 s.vm) {own : String} {idx : Nat} {y : MethodName} {yb : ByteArray} {yml : Nat} {yrt : Option FieldType} {rm : Room} {as : Array Value} {Qc : Option Value → Heap → List Loc → Prop} (argsL : List Value) (has : argsL.toArray = as) (hown : s.vm.findClass own = some m.cls) (w1 : (Jvm.Cond.methodLink own idx y).before a0 Z = true) (w2 : (Jvm.Cond.static y).before a0 Z = true) (w3 : (Jvm.Cond.initialized y.cls).before a0 Z = true) (w4 : (Jvm.Cond.code y yb yml yrt).before a0 Z = true) (hy : y.cls ≠ "java/lang/invoke/MethodHandle" ∧ y.cls ≠ "java/lang/invoke/VarHandle") (hd : decode bs pc = .ok (.invokestatic idx, 3)) (hM : Met1 l Z y yb yml yrt rm as h Qc) (eT : T.heap = h) {ps : List FieldType} {pr : Option FieldType} (hpd : parseMethodDescriptor y.desc = some ⟨ps, pr⟩) (hlen : argsL.length = ps.length) (hml : Ls.size = c.maxLocals) (hf : rm.frames + 1 ≤ R.frames) (W : Nat) (hW : (st.map fun v => v.category).sum = W) (hl : W + (yml + 11) + rm.locals ≤ R.locals) (hcl : cells + rm.cells ≤ R.cells) (hsl : slots + rm.slots ≤ R.slots) (pc' : Nat) (hp : pc + 3 = pc') (k : ∀ (T' : State) (L : List Loc) (v : Option Value), Stand p l e R s m args below meth c T' (locs ++ L) (cells + rm.cells) (slots + rm.slots) → Qc v T'.heap L → Go p e below G T' (mkF m pc' Ls (v.toList ++ st))) : Go p e below G T (mkF m pc Ls (argsL.reverse ++ st)) := by
  subst has
  subst hp
  obtain ⟨v, vm₁, ⟨T1, L1, k1, n1⟩, -, X1, ⟨Lc, hQ, l1, y1, z1⟩, st1⟩ := Jvm.LawKit.callS X hx (y := y) hown (mvT hZ w1) (mvT hZ w2) (mvT hZ w3) (mvT hZ w4) hy (backOf (W := W) (hM []) hZ w4 w3 hf hl) (g := mkF m pc Ls (argsL.reverse ++ st)) rfl hml (argsL := argsL) (rest := st) (lenOf hpd hlen) rfl (by show 2 * 0 + _ ≤ _; omega) (hb hby hd) (fun _ _ => ⟨rfl, eT, hcl, hsl⟩)
  dsimp only [Pt.U, Pt.locs, Pt.cells, Pt.slots] at X1 l1 y1 z1 st1 hQ
  subst l1 y1 z1
  exact Go.by (fun t q => st1 t q) (k T1 Lc v X1 hQ)
theorem own_callC (X : Stand p l e R s m args below meth c T locs cells slots) (hx : p.tables.exec = Jvm.exec) (hby : c.code = bs) (hZ : Z.Warmed39 s.vm) {own : String} {idx : Nat} {y : MethodName} {yb : ByteArray} {yml : Nat} {rm : Room} {as : Array Value} {Qc : Option Value → Heap → List Loc → Prop} {a : Addr} (argsL : List Value) (has : (.ref a :: argsL).toArray = as) (hy1 : y.name = "<init>") (hown : s.vm.findClass own = some m.cls) (w1 : (Jvm.Cond.methodLink own idx y).before a0 Z = true) (w2 : (Jvm.Cond.instanceMethod y).before a0 Z = true) (w3 : (Jvm.Cond.initialized y.cls).before a0 Z = true) (w4 : (Jvm.Cond.code y yb yml none).before a0 Z = true) (hy : y.cls ≠ "java/lang/invoke/MethodHandle" ∧ y.cls ≠ "java/lang/invoke/VarHandle") (hd : decode bs pc = .ok (.invokespecial idx, 3)) (hM : Met1 l Z y yb yml none rm as h Qc) (eT : T.heap = h) {ps : List FieldType} {pr : Option FieldType} (hpd : parseMethodDescriptor y.desc = some ⟨ps, pr⟩) (hlen : argsL.length = ps.length) (hml : Ls.size = c.maxLocals) (hf : rm.frames + 1 ≤ R.frames) (W : Nat) (hW : (st.map fun v => v.category).sum = W) (hl : W + (yml + 11) + rm.locals ≤ R.locals) (hcl : cells + rm.cells ≤ R.cells) (hsl : slots + rm.slots ≤ R.slots) (pc' : Nat) (hp : pc + 3 = pc') (k : ∀ (T' : State) (L : List Loc) (v : Option Value), Stand p l e R s m args below meth c T' (locs ++ L) (cells + rm.cells) (slots + rm.slots) → Qc v T'.heap L → Go p e below G T' (mkF m pc' Ls (v.toList ++ st))) : Go p e below G T (mkF m pc Ls (argsL.reverse ++ .ref a :: st)) := by
  subst has
  subst hp
  obtain ⟨v, vm₁, ⟨T1, L1, k1, n1⟩, -, X1, ⟨Lc, hQ, l1, y1, z1⟩, st1⟩ := X.specialBack hx (y := y) hy1 hown (mvT hZ w1) (mvT hZ w2) (mvT hZ w4) hy (backOf (W := W) (hM []) hZ w4 w3 hf hl) (g := mkF m pc Ls (argsL.reverse ++ .ref a :: st)) rfl hml (Steps.refl _) (a := a) (argsL := argsL) (rest := st) (lenOf hpd hlen) rfl (by show 2 * 0 + _ ≤ _; omega) (hb hby hd) (fun _ _ => ⟨rfl, eT, hcl, hsl⟩)
  dsimp only [Pt.U, Pt.locs, Pt.cells, Pt.slots] at X1 l1 y1 z1 st1 hQ
  subst l1 y1 z1
  exact Go.by (fun t q => st1.trans q) (k T1 Lc v X1 hQ)
theorem own_callV (X : Stand p l e R s m args below meth c T locs cells slots) (hx : p.tables.exec = Jvm.exec) (hby : c.code = bs) (hZ : Z.Warmed39 s.vm) {own : String} {idx : Nat} {y : MethodName} {yb : ByteArray} {yml : Nat} {yrt : Option FieldType} {rm : Room} {as : Array Value} {Qc : Option Value → Heap → List Loc → Prop} {a : Addr} {C : String} (argsL : List Value) (has : (.ref a :: argsL).toArray = as) (hown : s.vm.findClass own = some m.cls) (w1 : (Jvm.Cond.methodLink own idx y).before a0 Z = true) (w5 : (Jvm.Cond.declares y).before a0 Z = true) (w6 : (Jvm.Cond.selects C y y).before a0 Z = true) (w2 : (Jvm.Cond.instanceMethod y).before a0 Z = true) (w3 : (Jvm.Cond.initialized y.cls).before a0 Z = true) (w4 : (Jvm.Cond.code y yb yml yrt).before a0 Z = true) (E : Exa Z h a C) (hy : y.cls ≠ "java/lang/invoke/MethodHandle" ∧ y.cls ≠ "java/lang/invoke/VarHandle") (hd : decode bs pc = .ok (.invokevirtual idx, 3)) (hM : Met1 l Z y yb yml yrt rm as h Qc) (eT : T.heap = h) {ps : List FieldType} {pr : Option FieldType} (hpd : parseMethodDescriptor y.desc = some ⟨ps, pr⟩) (hlen : argsL.length = ps.length) (hml : Ls.size = c.maxLocals) (hf : rm.frames + 1 ≤ R.frames) (W : Nat) (hW : (st.map fun v => v.category).sum = W) (hl : W + (yml + 11) + rm.locals ≤ R.locals) (hcl : cells + rm.cells ≤ R.cells) (hsl : slots + rm.slots ≤ R.slots) (pc' : Nat) (hp : pc + 3 = pc') (k : ∀ (T' : State) (L : List Loc) (v : Option Value), Stand p l e R s m args below meth c T' (locs ++ L) (cells + rm.cells) (slots + rm.slots) → Qc v T'.heap L → Go p e below G T' (mkF m pc' Ls (v.toList ++ st))) : Go p e below G T (mkF m pc Ls (argsL.reverse ++ .ref a :: st)) := by
  subst has
  obtain ⟨cq, kq, qa, qb, qc⟩ := isOf hZ eT E
  subst hp
  obtain ⟨v, vm₁, ⟨T1, L1, k1, n1⟩, -, X1, ⟨Lc, hQ, l1, y1, z1⟩, st1⟩ := X.virtualBack hx (y := y) (z := y) hown (mvT hZ w1) (mvT hZ w5) (notFace_of_selects (args := #[]) (mvT hZ w6)) (mvT hZ w6) (mvT hZ w2) hy (backOf (W := W) (hM []) hZ w4 w3 hf hl) qa qc (g := mkF m pc Ls (argsL.reverse ++ .ref a :: st)) rfl hml (Steps.refl _) (argsL := argsL) (rest := st) (lenOf hpd hlen) rfl (by show 2 * 0 + _ ≤ _; omega) (hb hby hd) (fun _ _ => ⟨rfl, eT, hcl, hsl⟩)
  dsimp only [Pt.U, Pt.locs, Pt.cells, Pt.slots] at X1 l1 y1 z1 st1 hQ
  subst l1 y1 z1
  exact Go.by (fun t q => st1.trans q) (k T1 Lc v X1 hQ)
theorem own_getF (X : Stand p l e R s m args below meth c T locs cells slots) (hx : p.tables.exec = Jvm.exec) (hby : c.code = bs) (hZ : Z.Warmed39 s.vm) {own R0 O n d host : String} {idx : Nat} {a : Addr} {v : Value} (hown : s.vm.findClass own = some m.cls) (w : (Jvm.Cond.fieldLink own idx R0 n d).before a0 Z = true ∨ (Jvm.Cond.fieldLinkNest own idx R0 n d host).before a0 Z = true) (via : Via Z R0 O n d) (eT : T.heap = h) (F : Fld Z h a O n d v) (hd : decode bs pc = .ok (.getfield idx, 3)) (pc' : Nat) (hp : pc + 3 = pc') (k : ∀ T', Stand p l e R s m args below meth c T' locs cells slots → T'.heap = h → Go p e below G T' (mkF m pc' Ls (v :: st))) : Go p e below G T (mkF m pc Ls (.ref a :: st)) := by
  subst hp
  obtain ⟨T1, X1, e1, st1⟩ := getF X hx hZ hown w via eT F (g := mkF m pc Ls (.ref a :: st)) rfl rfl (hb hby hd)
  exact Go.by (fun t q => st1 t q) (k T1 X1 e1)
theorem own_putF (X : Stand p l e R s m args below meth c T locs cells slots) (hx : p.tables.exec = Jvm.exec) (hby : c.code = bs) (hZ : Z.Warmed39 s.vm) {own R0 O n d host C : String} {idx kk : Nat} {a : Addr} {v old : Value} {ty : FieldType} (hown : s.vm.findClass own = some m.cls) (w : (Jvm.Cond.fieldLink own idx R0 n d).before a0 Z = true ∨ (Jvm.Cond.fieldLinkNest own idx R0 n d host).before a0 Z = true) (via : Via Z R0 O n d) (eT : T.heap = h) (F : Fld Z h a O n d old) (E : Exa Z h a C) (lw : (Jvm.Cond.lays C O n d).before a0 Z = true ∨ ((Jvm.Cond.laysFinal C O n d).before a0 Z = true ∧ own = O ∧ meth.name = "<init>")) (wi : (Jvm.Cond.instantiable C kk).before a0 Z = true) (hty : parseFieldDescriptor d = some ty) (hn : narrow ty v = v) (hf : fits ty v = true) (hd : decode bs pc = .ok (.putfield idx, 3)) (pc' : Nat) (hp : pc + 3 = pc') (k : ∀ T' h', Stand p l e R s m args below meth c T' (locs ++ [⟨a, Jvm.RoadKit.slotOf Z O n d⟩]) cells slots → T'.heap = h' → Wr h h' a (Jvm.RoadKit.slotOf Z O n d) v → Go p e below G T' (mkF m pc' Ls st)) : Go p e below G T (mkF m pc Ls (v :: .ref a :: st)) := by
  subst hp
  obtain ⟨T1, h1, X1, e1, W1, st1⟩ := putF X hx hZ hown w via eT F E lw wi hty hn hf (g := mkF m pc Ls (v :: .ref a :: st)) rfl rfl (hb hby hd)
  exact Go.by (fun t q => st1 t q) (k T1 h1 X1 e1 W1)
theorem own_new (X : Stand p l e R s m args below meth c T locs cells slots) (hx : p.tables.exec = Jvm.exec) (hby : c.code = bs) (hZ : Z.Warmed39 s.vm) {own C : String} {idx n : Nat} (hown : s.vm.findClass own = some m.cls) (w : (Jvm.Cond.classLink own idx C).before a0 Z = true) (wi : (Jvm.Cond.instantiable C n).before a0 Z = true) (wz : (Jvm.Cond.initialized C).before a0 Z = true) (eT : T.heap = h) (hd : decode bs pc = .ok (.new idx, 3)) (hcl : cells + 1 ≤ R.cells) (hsl : slots + n ≤ R.slots) (pc' : Nat) (hp : pc + 3 = pc') (k : ∀ T' h' (b : Addr), b = h.size → Stand p l e R s m args below meth c T' locs (cells + 1) (slots + n) → T'.heap = h' → Ext h h' → Exa Z h' b C → (∀ {O nm d : String} {ty : FieldType}, Laid Z a0 C O nm d → parseFieldDescriptor d = some ty → Fld Z h' b O nm d (defaultValue ty)) → Go p e below G T' (mkF m pc' Ls (.ref b :: st))) : Go p e below G T (mkF m pc Ls st) := by
  subst hp
  obtain ⟨T1, h1, X1, e1, E1, A1, D1, -, st1⟩ := newO X hx hZ hown w wi wz eT (g := mkF m pc Ls st) rfl (hb hby hd) hcl hsl
  exact Go.by (fun t q => st1 t q) (k T1 h1 _ rfl X1 e1 E1 A1 D1)
theorem own_initO (X : Stand p l e R s m args below meth c T locs cells slots) (hx : p.tables.exec = Jvm.exec) (hby : c.code = bs) (hZ : Z.Warmed39 s.vm) {own : String} {idx : Nat} {a : Addr} (hown : s.vm.findClass own = some m.cls) (w1 : (Jvm.Cond.methodLink own idx Lib.objectInit).before a0 Z = true) (w2 : (Jvm.Cond.instanceMethod Lib.objectInit).before a0 Z = true) (w3 : (Jvm.Cond.code Lib.objectInit ⟨#[0xb1]⟩ 1 none).before a0 Z = true) (eT : T.heap = h) (hml : Ls.size = c.maxLocals) (hd : decode bs pc = .ok (.invokespecial idx, 3)) (hf : 1 ≤ R.frames) (W : Nat) (hW : (st.map fun v => v.category).sum = W) (hl : W + 12 ≤ R.locals) (pc' : Nat) (hp : pc + 3 = pc') (k : ∀ T', Stand p l e R s m args below meth c T' locs cells slots → T'.heap = h → Go p e below G T' (mkF m pc' Ls st)) : Go p e below G T (mkF m pc Ls (.ref a :: st)) := by
  subst hp
  obtain ⟨T1, X1, e1, st1⟩ := initO X hx hZ hown w1 w2 w3 eT (g := mkF m pc Ls (.ref a :: st)) rfl hml rfl (hb hby hd) hf (W := W) (by show 2 * 0 + _ ≤ _; omega) hl
  exact Go.by (fun t q => st1 t q) (k T1 X1 e1)
theorem own_putFN (X : Stand p l e R s m args below meth c T locs cells slots) (hx : p.tables.exec = Jvm.exec) (hby : c.code = bs) (hZ : Z.Warmed39 s.vm) {own R0 O n d C : String} {idx kk : Nat} {a : Addr} {v v' old : Value} {ty : FieldType} (hown : s.vm.findClass own = some m.cls) (w : (Jvm.Cond.fieldLink own idx R0 n d).before a0 Z = true) (via : Via Z R0 O n d) (eT : T.heap = h) (F : Fld Z h a O n d old) (E : Exa Z h a C) (lw : (Jvm.Cond.lays C O n d).before a0 Z = true ∨ ((Jvm.Cond.laysFinal C O n d).before a0 Z = true ∧ own = O ∧ meth.name = "<init>")) (wi : (Jvm.Cond.instantiable C kk).before a0 Z = true) (hty : parseFieldDescriptor d = some ty) (hn : narrow ty v = v') (hf : fits ty v' = true) (hd : decode bs pc = .ok (.putfield idx, 3)) (pc' : Nat) (hp : pc + 3 = pc') (k : ∀ T' h', Stand p l e R s m args below meth c T' (locs ++ [⟨a, Jvm.RoadKit.slotOf Z O n d⟩]) cells slots → T'.heap = h' → Wr h h' a (Jvm.RoadKit.slotOf Z O n d) v' → Go p e below G T' (mkF m pc' Ls st)) : Go p e below G T (mkF m pc Ls (v :: .ref a :: st)) := by
  subst hp
  obtain ⟨T1, h1, X1, e1, W1, st1⟩ := putFN X hx hZ hown w via eT F E lw wi hty hn hf (g := mkF m pc Ls (v :: .ref a :: st)) rfl rfl (hb hby hd)
  exact Go.by (fun t q => st1 t q) (k T1 h1 X1 e1 W1)
theorem own_callP (X : Stand p l e R s m args below meth c T locs cells slots) (hx : p.tables.exec = Jvm.exec) (hby : c.code = bs) (hZ : Z.Warmed39 s.vm) {own : String} {idx : Nat} {y : MethodName} {yb : ByteArray} {yml : Nat} {yrt : Option FieldType} {rm : Room} {as : Array Value} {Qc : Option Value → Heap → List Loc → Prop} {a : Addr} {C : String} (argsL : List Value) (has : (.ref a :: argsL).toArray = as) (hown : s.vm.findClass own = some m.cls) (w1 : (Jvm.Cond.methodLink own idx y).before a0 Z = true) (w2 : (Jvm.Cond.instanceMethod y).before a0 Z = true) {kk : Nat} (w6 : (Jvm.Cond.instantiable y.cls kk).before a0 Z = true) (w7 : (Jvm.Cond.privateMethod y).before a0 Z = true) (w3 : (Jvm.Cond.initialized y.cls).before a0 Z = true) (w4 : (Jvm.Cond.code y yb yml yrt).before a0 Z = true) (E : Exa Z h a C) (hy : y.cls ≠ "java/lang/invoke/MethodHandle" ∧ y.cls ≠ "java/lang/invoke/VarHandle") (hd : decode bs pc = .ok (.invokevirtual idx, 3)) (hM : Met1 l Z y yb yml yrt rm as h Qc) (eT : T.heap = h) {ps : List FieldType} {pr : Option FieldType} (hpd : parseMethodDescriptor y.desc = some ⟨ps, pr⟩) (hlen : argsL.length = ps.length) (hml : Ls.size = c.maxLocals) (hf : rm.frames + 1 ≤ R.frames) (W : Nat) (hW : (st.map fun v => v.category).sum = W) (hl : W + (yml + 11) + rm.locals ≤ R.locals) (hcl : cells + rm.cells ≤ R.cells) (hsl : slots + rm.slots ≤ R.slots) (pc' : Nat) (hp : pc + 3 = pc') (k : ∀ (T' : State) (L : List Loc) (v : Option Value), Stand p l e R s m args below meth c T' (locs ++ L) (cells + rm.cells) (slots + rm.slots) → Qc v T'.heap L → Go p e below G T' (mkF m pc' Ls (v.toList ++ st))) : Go p e below G T (mkF m pc Ls (argsL.reverse ++ .ref a :: st)) := by
  subst has
  obtain ⟨cq, q1, q2⟩ := E.cell
  have pv := Cond.privateMethod_at (mvP hZ w7 (args := #[]))
  have sel : (Jvm.Cond.selects y.cls y y).before args s = true := by
    obtain ⟨c1, k1, r1, r2, -, r3, -, -⟩ := Cond.instantiable_spec (mvT (args := args) hZ w6)
    exact selects_self_of_private r1 r2 (Bool.or_eq_false_iff.mp r3).1 pv (mvT hZ w2) hy
  subst hp
  obtain ⟨v, vm₁, ⟨T1, L1, k1, n1⟩, -, X1, ⟨Lc, hQ, l1, y1, z1⟩, st1⟩ := X.privateBack hx (y := y) hown (mvT hZ w1) (mvT hZ w2) sel pv (mvT hZ w4) hy (backOf (W := W) (hM []) hZ w4 w3 hf hl) (g := mkF m pc Ls (argsL.reverse ++ .ref a :: st)) rfl hml (Steps.refl _) (a := a) (by rw [eT]; exact q1) q2 (argsL := argsL) (rest := st) (lenOf hpd hlen) rfl (by show 2 * 0 + _ ≤ _; omega) (hb hby hd) (fun _ _ => ⟨rfl, eT, hcl, hsl⟩)
  dsimp only [Pt.U, Pt.locs, Pt.cells, Pt.slots] at X1 l1 y1 z1 st1 hQ
  subst l1 y1 z1
  exact Go.by (fun t q => st1.trans q) (k T1 Lc v X1 hQ)
theorem own_instY (X : Stand p l e R s m args below meth c T locs cells slots) (hx : p.tables.exec = Jvm.exec) (hby : c.code = bs) (hZ : Z.Warmed39 s.vm) {own K : String} {idx : Nat} {a : Addr} (hown : s.vm.findClass own = some m.cls) (w : (Jvm.Cond.classLink own idx K).before a0 Z = true) (eT : T.heap = h) (F : Ins Z h a K true) (hd : decode bs pc = .ok (.instanceof idx, 3)) (pc' : Nat) (hp : pc + 3 = pc') (k : ∀ T', Stand p l e R s m args below meth c T' locs cells slots → T'.heap = h → Go p e below G T' (mkF m pc' Ls (.int 1 :: st))) : Go p e below G T (mkF m pc Ls (.ref a :: st)) := by
  subst hp
  obtain ⟨T1, X1, e1, st1⟩ := instY X hx hZ hown w eT F (g := mkF m pc Ls (.ref a :: st)) rfl rfl (hb hby hd)
  exact Go.by (fun t q => st1 t q) (k T1 X1 e1)
theorem own_instNo (X : Stand p l e R s m args below meth c T locs cells slots) (hx : p.tables.exec = Jvm.exec) (hby : c.code = bs) (hZ : Z.Warmed39 s.vm) {own K : String} {idx : Nat} {a : Addr} (hown : s.vm.findClass own = some m.cls) (w : (Jvm.Cond.classLink own idx K).before a0 Z = true) (eT : T.heap = h) {C : String} (E : Exa Z h a C) (F : ∃ c t, Z.vm.findClass C = some c ∧ Z.vm.findClass K = some t ∧ Z.vm.assignable c t = false) (hd : decode bs pc = .ok (.instanceof idx, 3)) (pc' : Nat) (hp : pc + 3 = pc') (k : ∀ T', Stand p l e R s m args below meth c T' locs cells slots → T'.heap = h → Go p e below G T' (mkF m pc' Ls (.int 0 :: st))) : Go p e below G T (mkF m pc Ls (.ref a :: st)) := by
  subst hp
  obtain ⟨T1, X1, e1, st1⟩ := instNo X hx hZ hown w eT E F (g := mkF m pc Ls (.ref a :: st)) rfl rfl (hb hby hd)
  exact Go.by (fun t q => st1 t q) (k T1 X1 e1)
theorem own_castY (X : Stand p l e R s m args below meth c T locs cells slots) (hx : p.tables.exec = Jvm.exec) (hby : c.code = bs) (hZ : Z.Warmed39 s.vm) {own K : String} {idx : Nat} {a : Addr} (hown : s.vm.findClass own = some m.cls) (w : (Jvm.Cond.classLink own idx K).before a0 Z = true) (eT : T.heap = h) (F : Ins Z h a K true) (hd : decode bs pc = .ok (.checkcast idx, 3)) (pc' : Nat) (hp : pc + 3 = pc') (k : ∀ T', Stand p l e R s m args below meth c T' locs cells slots → T'.heap = h → Go p e below G T' (mkF m pc' Ls (.ref a :: st))) : Go p e below G T (mkF m pc Ls (.ref a :: st)) := by
  subst hp
  obtain ⟨T1, X1, e1, st1⟩ := castY X hx hZ hown w eT F (g := mkF m pc Ls (.ref a :: st)) rfl rfl (hb hby hd)
  exact Go.by (fun t q => st1 t q) (k T1 X1 e1)
theorem own_instNull (X : Stand p l e R s m args below meth c T locs cells slots) (hx : p.tables.exec = Jvm.exec) (hby : c.code = bs) {idx : Nat} (hd : decode bs pc = .ok (.instanceof idx, 3)) (pc' : Nat) (hp : pc + 3 = pc') (k : Go p e below G T (mkF m pc' Ls (.int 0 :: st))) : Go p e below G T (mkF m pc Ls (.null :: st)) := by
  subst hp
  exact Go.by (fun t q => X.instanceofNull hx (g := mkF m pc Ls (.null :: st)) rfl rfl (hb hby hd) t q) k
theorem own_castNull (X : Stand p l e R s m args below meth c T locs cells slots) (hx : p.tables.exec = Jvm.exec) (hby : c.code = bs) {idx : Nat} (hd : decode bs pc = .ok (.checkcast idx, 3)) (pc' : Nat) (hp : pc + 3 = pc') (k : Go p e below G T (mkF m pc' Ls (.null :: st))) : Go p e below G T (mkF m pc Ls (.null :: st)) := by
  subst hp
  exact Go.by (fun t q => X.checkcastNull hx (g := mkF m pc Ls (.null :: st)) rfl rfl (hb hby hd) t q) k
theorem own_acmp (X : Stand p l e R s m args below meth c T locs cells slots) (hx : p.tables.exec = Jvm.exec) (hby : c.code = bs) {cd : ACond} {o : Int} {x y : Value} (same : Bool) (hd : decode bs pc = .ok (.if_acmp cd o, 3)) (h1 : x.isRef = true) (h2 : y.isRef = true) (hq : decide (x = y) = same) (ho : 0 ≤ (pc : Int) + o) (pc' : Nat) (hp : pc' = if acV cd same = true then ((pc : Int) + o).toNat else pc + 3) (k : Go p e below G T (mkF m pc' Ls st)) : Go p e below G T (mkF m pc Ls (y :: x :: st)) :=
  Go.by (fun t q => Jvm.RoadKit.acmp (g := mkF m pc Ls (y :: x :: st)) X hx rfl h1 h2 (pc0 := pc) (pc' := pc') (same := same) rfl (hb hby hd) rfl hq ho hp q) k
theorem own_getS (X : Stand p l e R s m args below meth c T locs cells slots) (hx : p.tables.exec = Jvm.exec) (hby : c.code = bs) (hZ : Z.Warmed39 s.vm) {own R0 O n d host : String} {idx : Nat} {v : Value} (hown : s.vm.findClass own = some m.cls) (w : (Jvm.Cond.fieldLink own idx R0 n d).before a0 Z = true ∨ (Jvm.Cond.fieldLinkNest own idx R0 n d host).before a0 Z = true) (via : Via Z R0 O n d) (eT : T.heap = h) (F : Sta Z h O n d v) (hd : decode bs pc = .ok (.getstatic idx, 3)) (pc' : Nat) (hp : pc + 3 = pc') (k : ∀ T', Stand p l e R s m args below meth c T' locs cells slots → T'.heap = h → Go p e below G T' (mkF m pc' Ls (v :: st))) : Go p e below G T (mkF m pc Ls st) := by
  subst hp
  obtain ⟨T1, X1, e1, st1⟩ := getS2 X hx hZ hown w via eT F (g := mkF m pc Ls st) rfl (hb hby hd)
  exact Go.by (fun t q => st1 t q) (k T1 X1 e1)
/-- an array of n places that hold what f says -/
def Afn (Z : State) (h : Heap) (a : Addr) (ty : FieldType) (n : Nat) (f : Nat → Value) : Prop := ∃ cl : Cell, Arr Z h a cl ty ∧ cl.slots.size = n ∧ ∀ i, i < n → cl.slots[i]? = some (f i) ∧ fits ty (f i) = true
def upd (f : Nat → Value) (i : Nat) (v : Value) : Nat → Value := fun j => if j = i then v else f j
theorem Afn.lt {a : Addr} {ty : FieldType} {n : Nat} {f : Nat → Value} (F : Afn Z h a ty n f) : a < h.size := by obtain ⟨cl, A, -⟩ := F; exact A.lt
theorem Afn.ext {h' : Heap} {a : Addr} {ty : FieldType} {n : Nat} {f : Nat → Value} (F : Afn Z h a ty n f) (E : Ext h h') : Afn Z h' a ty n f := by obtain ⟨cl, A, r⟩ := F; exact ⟨cl, A.ext E, r⟩
theorem Afn.other {h' : Heap} {a b : Addr} {sl : Nat} {v : Value} {ty : FieldType} {n : Nat} {f : Nat → Value} (F : Afn Z h b ty n f) (W : Wr h h' a sl v) (q : b ≠ a) : Afn Z h' b ty n f := by obtain ⟨cl, A, r⟩ := F; exact ⟨cl, A.other W q, r⟩
theorem Afn.keep {h' : Heap} {a : Addr} {ws : List Addr} {ty : FieldType} {n : Nat} {f : Nat → Value} (F : Afn Z h a ty n f) (K : Keep h h' ws) (q : a ∉ ws) : Afn Z h' a ty n f := by obtain ⟨cl, A, r⟩ := F; exact ⟨cl, ⟨K.2.1 a cl A.1 q, A.2⟩, r⟩
theorem Afn.to {a : Addr} {ty : FieldType} {n : Nat} {f f' : Nat → Value} (F : Afn Z h a ty n f) (q : ∀ i, i < n → f i = f' i) : Afn Z h a ty n f' := by obtain ⟨cl, A, S, H⟩ := F; exact ⟨cl, A, S, fun i hi => q i hi ▸ H i hi⟩
theorem Afn.new {a : Addr} {k : ClassId} {ty : FieldType} {z : Int32} {n : Nat} (A : Arr Z h a (newA k ty z) ty) (q : z.toNatClampNeg = n) : Afn Z h a ty n (fun _ => defaultValue ty) := by
  refine ⟨_, A, by rw [sz_new]; exact q, fun i hi => ⟨?_, by cases ty <;> rfl⟩⟩
  subst q
  show (Array.replicate z.toNatClampNeg (defaultValue ty))[i]? = _
  rw [Array.getElem?_replicate, if_pos hi]
theorem Afn.set {h' : Heap} {a : Addr} {ty : FieldType} {n i : Nat} {v : Value} {f : Nat → Value} (F : Afn Z h a ty n f) (W : Wr h h' a i v) (hi : i < n) (hv : fits ty v = true) : Afn Z h' a ty n (upd f i v) := by
  obtain ⟨cl, A, S, H⟩ := F
  refine ⟨cl.setSlot i v, A.same W, by rw [sz_set]; exact S, fun j hj => ?_⟩
  unfold upd
  by_cases q : j = i
  · subst q
    rw [if_pos rfl]
    refine ⟨?_, hv⟩
    show (cl.slots.setIfInBounds j v)[j]? = some v
    rw [Array.getElem?_setIfInBounds_self_of_lt (by rw [S]; exact hj)]
  · rw [if_neg q]
    refine ⟨?_, (H j hj).2⟩
    rw [← (H j hj).1]
    exact Array.getElem?_setIfInBounds_ne (Ne.symm q)
theorem own_in {j : Int32} {n : Nat} (h0 : 0 ≤ j.toInt) (h1 : j.toInt < n) : ¬ (j < 0 ∨ n ≤ j.toNatClampNeg) := by
  simp only [Int32.lt_iff_toInt_lt, Int32.toNatClampNeg, Int32.reduceToInt]; omega
/-- an array of ints (bytes, chars, shorts): n places that hold what g says -/
def Afi (Z : State) (h : Heap) (a : Addr) (ty : FieldType) (n : Nat) (g : Nat → Int32) : Prop := Afn Z h a ty n (fun i => .int (g i))
def updI (g : Nat → Int32) (i : Nat) (v : Int32) : Nat → Int32 := fun j => if j = i then v else g j
theorem Afi.lt {a : Addr} {ty : FieldType} {n : Nat} {g : Nat → Int32} (F : Afi Z h a ty n g) : a < h.size := Afn.lt F
theorem Afi.ext {h' : Heap} {a : Addr} {ty : FieldType} {n : Nat} {g : Nat → Int32} (F : Afi Z h a ty n g) (E : Ext h h') : Afi Z h' a ty n g := Afn.ext F E
theorem Afi.other {h' : Heap} {a b : Addr} {sl : Nat} {v : Value} {ty : FieldType} {n : Nat} {g : Nat → Int32} (F : Afi Z h b ty n g) (W : Wr h h' a sl v) (q : b ≠ a) : Afi Z h' b ty n g := Afn.other F W q
theorem Afi.keep {h' : Heap} {a : Addr} {ws : List Addr} {ty : FieldType} {n : Nat} {g : Nat → Int32} (F : Afi Z h a ty n g) (K : Keep h h' ws) (q : a ∉ ws) : Afi Z h' a ty n g := Afn.keep F K q
theorem Afi.to {a : Addr} {ty : FieldType} {n : Nat} {g g' : Nat → Int32} (F : Afi Z h a ty n g) (q : ∀ i, i < n → g i = g' i) : Afi Z h a ty n g' := Afn.to F fun i hi => congrArg Value.int (q i hi)
theorem Afi.set {h' : Heap} {a : Addr} {ty : FieldType} {n i : Nat} {v : Int32} {g : Nat → Int32} (F : Afi Z h a ty n g) (W : Wr h h' a i (.int v)) (hi : i < n) (hv : fits ty (.int v) = true) : Afi Z h' a ty n (updI g i v) :=
  (Afn.set F W hi hv).to fun j _ => by
    unfold upd updI
    by_cases q : j = i
    · rw [if_pos q, if_pos q]
    · rw [if_neg q, if_neg q]
theorem own_iaload (X : Stand p l e R s m args below meth c T locs cells slots) (hx : p.tables.exec = Jvm.exec) (hby : c.code = bs) (hZ : Z.Warmed39 s.vm) {a : Addr} {j : Int32} {n : Nat} {g : Nat → Int32} (v : Int32) (eT : T.heap = h) (F : Afi Z h a .int n g) (hj : ¬ (j < 0 ∨ n ≤ j.toNatClampNeg)) (hv : g j.toNatClampNeg = v) (hd : decode bs pc = .ok (.iaload, 1)) (pc' : Nat) (hp : pc + 1 = pc') (k : Go p e below G T (mkF m pc' Ls (.int v :: st))) : Go p e below G T (mkF m pc Ls (.int j :: .ref a :: st)) := by
  subst hp
  subst hv
  obtain ⟨cl, A, S, H⟩ := F
  subst S
  exact Go.by (fun t q => X.iaload hx (j := j) (v := .int (g j.toNatClampNeg)) (by rw [eT]; exact A.1) (State.isArrayOf_alike hZ.alike A.2.1) A.2.2 hj (H _ (Nat.lt_of_not_le fun q => hj (Or.inr q))).1 (g := mkF m pc Ls (.int j :: .ref a :: st)) rfl rfl (hb hby hd) t q) k
theorem own_baload (X : Stand p l e R s m args below meth c T locs cells slots) (hx : p.tables.exec = Jvm.exec) (hby : c.code = bs) (hZ : Z.Warmed39 s.vm) {a : Addr} {j : Int32} {n : Nat} {g : Nat → Int32} (v : Int32) (eT : T.heap = h) (F : Afi Z h a .byte n g) (hj : ¬ (j < 0 ∨ n ≤ j.toNatClampNeg)) (hv : g j.toNatClampNeg = v) (hd : decode bs pc = .ok (.baload, 1)) (pc' : Nat) (hp : pc + 1 = pc') (k : Go p e below G T (mkF m pc' Ls (.int v :: st))) : Go p e below G T (mkF m pc Ls (.int j :: .ref a :: st)) := by
  subst hp
  subst hv
  obtain ⟨cl, A, S, H⟩ := F
  subst S
  exact Go.by (fun t q => X.baloadBytes hx (j := j) (v := .int (g j.toNatClampNeg)) (by rw [eT]; exact A.1) (State.isArrayOf_alike hZ.alike A.2.1) A.2.2 hj (H _ (Nat.lt_of_not_le fun q => hj (Or.inr q))).1 (g := mkF m pc Ls (.int j :: .ref a :: st)) rfl rfl (hb hby hd) t q) k
theorem own_caload (X : Stand p l e R s m args below meth c T locs cells slots) (hx : p.tables.exec = Jvm.exec) (hby : c.code = bs) (hZ : Z.Warmed39 s.vm) {a : Addr} {j : Int32} {n : Nat} {g : Nat → Int32} (v : Int32) (eT : T.heap = h) (F : Afi Z h a .char n g) (hj : ¬ (j < 0 ∨ n ≤ j.toNatClampNeg)) (hv : g j.toNatClampNeg = v) (hd : decode bs pc = .ok (.caload, 1)) (pc' : Nat) (hp : pc + 1 = pc') (k : Go p e below G T (mkF m pc' Ls (.int v :: st))) : Go p e below G T (mkF m pc Ls (.int j :: .ref a :: st)) := by
  subst hp
  subst hv
  obtain ⟨cl, A, S, H⟩ := F
  subst S
  exact Go.by (fun t q => X.caload hx (j := j) (v := .int (g j.toNatClampNeg)) (by rw [eT]; exact A.1) (State.isArrayOf_alike hZ.alike A.2.1) A.2.2 hj (H _ (Nat.lt_of_not_le fun q => hj (Or.inr q))).1 (g := mkF m pc Ls (.int j :: .ref a :: st)) rfl rfl (hb hby hd) t q) k
theorem own_saload (X : Stand p l e R s m args below meth c T locs cells slots) (hx : p.tables.exec = Jvm.exec) (hby : c.code = bs) (hZ : Z.Warmed39 s.vm) {a : Addr} {j : Int32} {n : Nat} {g : Nat → Int32} (v : Int32) (eT : T.heap = h) (F : Afi Z h a .short n g) (hj : ¬ (j < 0 ∨ n ≤ j.toNatClampNeg)) (hv : g j.toNatClampNeg = v) (hd : decode bs pc = .ok (.saload, 1)) (pc' : Nat) (hp : pc + 1 = pc') (k : Go p e below G T (mkF m pc' Ls (.int v :: st))) : Go p e below G T (mkF m pc Ls (.int j :: .ref a :: st)) := by
  subst hp
  subst hv
  obtain ⟨cl, A, S, H⟩ := F
  subst S
  exact Go.by (fun t q => X.saload hx (j := j) (v := .int (g j.toNatClampNeg)) (by rw [eT]; exact A.1) (State.isArrayOf_alike hZ.alike A.2.1) A.2.2 hj (H _ (Nat.lt_of_not_le fun q => hj (Or.inr q))).1 (g := mkF m pc Ls (.int j :: .ref a :: st)) rfl rfl (hb hby hd) t q) k
theorem own_aaload (X : Stand p l e R s m args below meth c T locs cells slots) (hx : p.tables.exec = Jvm.exec) (hby : c.code = bs) (hZ : Z.Warmed39 s.vm) {a : Addr} {j : Int32} {n : Nat} {ty : FieldType} {f : Nat → Value} (v : Value) (eT : T.heap = h) (F : Afn Z h a ty n f) (hty : ty.isReference = true) (hj : ¬ (j < 0 ∨ n ≤ j.toNatClampNeg)) (hv : f j.toNatClampNeg = v) (hd : decode bs pc = .ok (.aaload, 1)) (pc' : Nat) (hp : pc + 1 = pc') (k : Go p e below G T (mkF m pc' Ls (v :: st))) : Go p e below G T (mkF m pc Ls (.int j :: .ref a :: st)) := by
  subst hp
  subst hv
  obtain ⟨cl, A, S, H⟩ := F
  subst S
  exact Go.by (fun t q => X.aaload hx (j := j) (v := f j.toNatClampNeg) (by rw [eT]; exact A.1) (State.isArrayOf_alike hZ.alike A.2.1) hty A.2.2 hj (H _ (Nat.lt_of_not_le fun q => hj (Or.inr q))).1 (g := mkF m pc Ls (.int j :: .ref a :: st)) rfl rfl (hb hby hd) t q) k
theorem own_arraylength (X : Stand p l e R s m args below meth c T locs cells slots) (hx : p.tables.exec = Jvm.exec) (hby : c.code = bs) (hZ : Z.Warmed39 s.vm) {a : Addr} {ty : FieldType} {n : Nat} {f : Nat → Value} (z : Int32) (eT : T.heap = h) (F : Afn Z h a ty n f) (hz : n.toInt32 = z) (hd : decode bs pc = .ok (.arraylength, 1)) (pc' : Nat) (hp : pc + 1 = pc') (k : Go p e below G T (mkF m pc' Ls (.int z :: st))) : Go p e below G T (mkF m pc Ls (.ref a :: st)) := by
  subst hp
  subst hz
  obtain ⟨cl, A, S, H⟩ := F
  subst S
  exact Go.by (fun t q => X.arraylength hx (by rw [eT]; exact A.1) (State.isArrayOf_alike hZ.alike A.2.1) (g := mkF m pc Ls (.ref a :: st)) rfl rfl (hb hby hd) t q) k
theorem own_iastore (X : Stand p l e R s m args below meth c T locs cells slots) (hx : p.tables.exec = Jvm.exec) (hby : c.code = bs) (hZ : Z.Warmed39 s.vm) {a : Addr} {j x : Int32} {n : Nat} {g : Nat → Int32} (eT : T.heap = h) (F : Afi Z h a .int n g) (hj : ¬ (j < 0 ∨ n ≤ j.toNatClampNeg)) (hd : decode bs pc = .ok (.iastore, 1)) (pc' : Nat) (hp : pc + 1 = pc') (k : ∀ T' h', Stand p l e R s m args below meth c T' (locs ++ [⟨a, j.toNatClampNeg⟩]) cells slots → T'.heap = h' → Wr h h' a j.toNatClampNeg (.int x) → Afi Z h' a .int n (updI g j.toNatClampNeg x) → Go p e below G T' (mkF m pc' Ls st)) : Go p e below G T (mkF m pc Ls (.int x :: .int j :: .ref a :: st)) := by
  subst hp
  have F0 := F
  obtain ⟨cl, A, S, H⟩ := F
  obtain ⟨T1, h1, X1, e1, W1, st1⟩ := stI X hx hZ eT A (j := j) (x := x) (by rw [S]; exact hj) (g := mkF m pc Ls (.int x :: .int j :: .ref a :: st)) rfl rfl (hb hby hd)
  exact Go.by (fun t q => st1 t q) (k T1 h1 X1 e1 W1 (F0.set W1 (Nat.lt_of_not_le fun q => hj (Or.inr q)) rfl))
theorem own_bastore (X : Stand p l e R s m args below meth c T locs cells slots) (hx : p.tables.exec = Jvm.exec) (hby : c.code = bs) (hZ : Z.Warmed39 s.vm) {a : Addr} {j x : Int32} {n : Nat} {g : Nat → Int32} (eT : T.heap = h) (F : Afi Z h a .byte n g) (hj : ¬ (j < 0 ∨ n ≤ j.toNatClampNeg)) (hd : decode bs pc = .ok (.bastore, 1)) (pc' : Nat) (hp : pc + 1 = pc') (k : ∀ T' h', Stand p l e R s m args below meth c T' (locs ++ [⟨a, j.toNatClampNeg⟩]) cells slots → T'.heap = h' → Wr h h' a j.toNatClampNeg (.int (nar .byte x)) → Afi Z h' a .byte n (updI g j.toNatClampNeg (nar .byte x)) → Go p e below G T' (mkF m pc' Ls st)) : Go p e below G T (mkF m pc Ls (.int x :: .int j :: .ref a :: st)) := by
  subst hp
  have F0 := F
  obtain ⟨cl, A, S, H⟩ := F
  obtain ⟨T1, h1, X1, e1, W1, st1⟩ := stB X hx hZ eT A (j := j) (x := x) (by rw [S]; exact hj) (g := mkF m pc Ls (.int x :: .int j :: .ref a :: st)) rfl rfl (hb hby hd)
  exact Go.by (fun t q => st1 t q) (k T1 h1 X1 e1 W1 (F0.set W1 (Nat.lt_of_not_le fun q => hj (Or.inr q)) (fits_nar_byte x)))
theorem own_castore (X : Stand p l e R s m args below meth c T locs cells slots) (hx : p.tables.exec = Jvm.exec) (hby : c.code = bs) (hZ : Z.Warmed39 s.vm) {a : Addr} {j x : Int32} {n : Nat} {g : Nat → Int32} (eT : T.heap = h) (F : Afi Z h a .char n g) (hj : ¬ (j < 0 ∨ n ≤ j.toNatClampNeg)) (hd : decode bs pc = .ok (.castore, 1)) (pc' : Nat) (hp : pc + 1 = pc') (k : ∀ T' h', Stand p l e R s m args below meth c T' (locs ++ [⟨a, j.toNatClampNeg⟩]) cells slots → T'.heap = h' → Wr h h' a j.toNatClampNeg (.int (nar .char x)) → Afi Z h' a .char n (updI g j.toNatClampNeg (nar .char x)) → Go p e below G T' (mkF m pc' Ls st)) : Go p e below G T (mkF m pc Ls (.int x :: .int j :: .ref a :: st)) := by
  subst hp
  have F0 := F
  obtain ⟨cl, A, S, H⟩ := F
  obtain ⟨T1, h1, X1, e1, W1, st1⟩ := stC X hx hZ eT A (j := j) (x := x) (by rw [S]; exact hj) (g := mkF m pc Ls (.int x :: .int j :: .ref a :: st)) rfl rfl (hb hby hd)
  exact Go.by (fun t q => st1 t q) (k T1 h1 X1 e1 W1 (F0.set W1 (Nat.lt_of_not_le fun q => hj (Or.inr q)) (fits_nar_char x)))
theorem own_sastore (X : Stand p l e R s m args below meth c T locs cells slots) (hx : p.tables.exec = Jvm.exec) (hby : c.code = bs) (hZ : Z.Warmed39 s.vm) {a : Addr} {j x : Int32} {n : Nat} {g : Nat → Int32} (eT : T.heap = h) (F : Afi Z h a .short n g) (hj : ¬ (j < 0 ∨ n ≤ j.toNatClampNeg)) (hd : decode bs pc = .ok (.sastore, 1)) (pc' : Nat) (hp : pc + 1 = pc') (k : ∀ T' h', Stand p l e R s m args below meth c T' (locs ++ [⟨a, j.toNatClampNeg⟩]) cells slots → T'.heap = h' → Wr h h' a j.toNatClampNeg (.int (nar .short x)) → Afi Z h' a .short n (updI g j.toNatClampNeg (nar .short x)) → Go p e below G T' (mkF m pc' Ls st)) : Go p e below G T (mkF m pc Ls (.int x :: .int j :: .ref a :: st)) := by
  subst hp
  have F0 := F
  obtain ⟨cl, A, S, H⟩ := F
  obtain ⟨T1, h1, X1, e1, W1, st1⟩ := stS X hx hZ eT A (j := j) (x := x) (by rw [S]; exact hj) (g := mkF m pc Ls (.int x :: .int j :: .ref a :: st)) rfl rfl (hb hby hd)
  exact Go.by (fun t q => st1 t q) (k T1 h1 X1 e1 W1 (F0.set W1 (Nat.lt_of_not_le fun q => hj (Or.inr q)) (fits_nar_short x)))
theorem own_aastore (X : Stand p l e R s m args below meth c T locs cells slots) (hx : p.tables.exec = Jvm.exec) (hby : c.code = bs) (hZ : Z.Warmed39 s.vm) {a : Addr} {j : Int32} {v : Value} {n : Nat} {ty : FieldType} {f : Nat → Value} (eT : T.heap = h) (F : Afn Z h a ty n f) (hj : ¬ (j < 0 ∨ n ≤ j.toNatClampNeg)) (hty : ty.isReference = true) (hfv : fits ty v = true) (So : Sto Z h a v) (hd : decode bs pc = .ok (.aastore, 1)) (pc' : Nat) (hp : pc + 1 = pc') (k : ∀ T' h', Stand p l e R s m args below meth c T' (locs ++ [⟨a, j.toNatClampNeg⟩]) cells slots → T'.heap = h' → Wr h h' a j.toNatClampNeg v → Afn Z h' a ty n (upd f j.toNatClampNeg v) → Go p e below G T' (mkF m pc' Ls st)) : Go p e below G T (mkF m pc Ls (v :: .int j :: .ref a :: st)) := by
  subst hp
  have F0 := F
  obtain ⟨cl, A, S, H⟩ := F
  obtain ⟨T1, h1, X1, e1, W1, st1⟩ := stR X hx hZ eT A (j := j) (by rw [S]; exact hj) hty So (g := mkF m pc Ls (v :: .int j :: .ref a :: st)) rfl rfl (hb hby hd)
  exact Go.by (fun t q => st1 t q) (k T1 h1 X1 e1 W1 (F0.set W1 (Nat.lt_of_not_le fun q => hj (Or.inr q)) hfv))
theorem own_newarray (X : Stand p l e R s m args below meth c T locs cells slots) (hx : p.tables.exec = Jvm.exec) (hby : c.code = bs) (hZ : Z.Warmed39 s.vm) {aty : ArrayType} {z : Int32} {n cap : Nat} {ad : String} (w : (Jvm.Cond.arrayClass (newarray.typeOf aty)).before a0 Z = true) (eT : T.heap = h) (hd : decode bs pc = .ok (.newarray aty, 2)) (hz : ¬ z < 0) (hn : z.toNatClampNeg = n) (hcap : n ≤ cap) (hb8 : cap * 8 ≤ 536870912) (hcl : cells + 1 ≤ R.cells) (hsl : slots + cap ≤ R.slots) (had : "[" ++ (newarray.typeOf aty).toString = ad) (pc' : Nat) (hp : pc + 2 = pc') (k : ∀ T' h' (b : Addr), b = h.size → Stand p l e R s m args below meth c T' locs (cells + 1) (slots + cap) → T'.heap = h' → Ext h h' → Afn Z h' b (newarray.typeOf aty) n (fun _ => defaultValue (newarray.typeOf aty)) → Exa Z h' b ad → Go p e below G T' (mkF m pc' Ls (.ref b :: st))) : Go p e below G T (mkF m pc Ls (.int z :: st)) := by
  subst hp
  obtain ⟨T1, h1, cA, X1, e1, E1, A1, Ex1, st1⟩ := newPE X hx hZ w eT (g := mkF m pc Ls (.int z :: st)) rfl (hb hby hd) rfl hz (cap := cap) (by rw [hn]; exact hcap) hb8 hcl hsl had
  exact Go.by (fun t q => st1 t q) (k T1 h1 _ rfl X1 e1 E1 (Afn.new A1 hn) Ex1)
theorem own_anewarray (X : Stand p l e R s m args below meth c T locs cells slots) (hx : p.tables.exec = Jvm.exec) (hby : c.code = bs) (hZ : Z.Warmed39 s.vm) {own C : String} {idx : Nat} {z : Int32} {n cap : Nat} {ad : String} (hown : s.vm.findClass own = some m.cls) (w1 : (Jvm.Cond.classLink own idx C).before a0 Z = true) (w2 : (Jvm.Cond.arrayOver (.object C)).before a0 Z = true) (eT : T.heap = h) (hd : decode bs pc = .ok (.anewarray idx, 3)) (hz : ¬ z < 0) (hn : z.toNatClampNeg = n) (hcap : n ≤ cap) (hb8 : cap * 8 ≤ 536870912) (hcl : cells + 1 ≤ R.cells) (hsl : slots + cap ≤ R.slots) (had : "[" ++ (FieldType.object C).toString = ad) (pc' : Nat) (hp : pc + 3 = pc') (k : ∀ T' h' (b : Addr) cA, b = h.size → Stand p l e R s m args below meth c T' locs (cells + 1) (slots + cap) → T'.heap = h' → Ext h h' → Afn Z h' b (.object C) n (fun _ => .null) → Exa Z h' b ad → Arr Z h' b (newA cA (.object C) z) (.object C) → Ovr Z cA C → Go p e below G T' (mkF m pc' Ls (.ref b :: st))) : Go p e below G T (mkF m pc Ls (.int z :: st)) := by
  subst hp
  obtain ⟨T1, h1, cA, X1, e1, E1, A1, Ex1, O1, st1⟩ := newRE X hx hZ hown w1 w2 eT (g := mkF m pc Ls (.int z :: st)) rfl (hb hby hd) rfl hz (cap := cap) (by rw [hn]; exact hcap) hb8 hcl hsl had
  exact Go.by (fun t q => st1 t q) (k T1 h1 _ cA rfl X1 e1 E1 (Afn.new A1 hn) Ex1 A1 O1)
theorem own_lremV (x y : Int64) : 0 ≤ x.toInt → 0 < y.toInt → 0 ≤ (x % y).toInt ∧ (x % y).toInt < y.toInt := by
  intro h1 h2
  rw [Int64.toInt_mod, (tr x.toInt y.toInt).1 h1]
  exact ⟨Int.emod_nonneg _ (by omega), Int.emod_lt_of_pos _ h2⟩
theorem own_NSroot {O K : String} {n : Nat} (w : (Jvm.Cond.noSuperclass O).before a0 Z = true) (wk : (Jvm.Cond.instantiable K n).before a0 Z = true) (hn : O ≠ K) : NS Z O K := by
  obtain ⟨c, k, h1, h2, h3, -, -⟩ := Cond.noSuperclass_spec w
  obtain ⟨t, k2, g1, -⟩ := Cond.instantiable_spec wk
  have ne := ids_ne h1 g1 hn
  refine ⟨c, t, h1, g1, fun fuel => ?_⟩
  cases fuel with
  | zero => rfl
  | succ f => simp [Vm.isSubclassAux, ne, h2, h3]
theorem own_NSno {C S K : String} {n : Nat} (w : (Jvm.Cond.superclass C S).before a0 Z = true) (wk : (Jvm.Cond.instantiable K n).before a0 Z = true) (nn : NS Z C K) (hn : C ≠ K) : ∃ c t, Z.vm.findClass C = some c ∧ Z.vm.findClass K = some t ∧ Z.vm.assignable c t = false := by
  obtain ⟨c, t, h0, g0, n3⟩ := nn
  obtain ⟨p, k, kp, h1, h2, h3, h4, h5, -, h7⟩ := Cond.superclass_spec h0 w
  obtain ⟨t', k', g1, g2, g5, g6, -, -⟩ := Cond.instantiable_spec wk
  cases g0.symm.trans g1
  have ne := ids_ne h0 g0 hn
  have g7 : k'.isInterface = false := (Bool.or_eq_false_iff.mp g6).1
  refine ⟨c, t, h0, g0, ?_⟩
  show Z.vm.assignableAux (255 + 1) c t = false
  simp [Vm.assignableAux, ne, h2, g2, h5, g5, g7, Vm.isSubclass, n3]
theorem own_ext0 {h0 : Heap} (K : Keep h0 h []) : Ext h0 h := ⟨K.1, fun a c q => K.2.1 a c q nin0⟩
/-- an array of references over the class C takes objects of C -/
def Orr (Z : State) (h : Heap) (b : Addr) (C : String) : Prop := ∃ (c : Cell) (cA : ClassId), Arr Z h b c (.object C) ∧ c.cls = cA ∧ Ovr Z cA C
theorem Orr.lt {b : Addr} {C : String} (F : Orr Z h b C) : b < h.size := by obtain ⟨c, cA, A, -⟩ := F; exact A.lt
theorem Orr.ext {h' : Heap} {b : Addr} {C : String} (F : Orr Z h b C) (E : Ext h h') : Orr Z h' b C := by obtain ⟨c, cA, A, r⟩ := F; exact ⟨c, cA, A.ext E, r⟩
theorem Orr.wr {h' : Heap} {a b : Addr} {C : String} {sl : Nat} {v : Value} (F : Orr Z h b C) (W : Wr h h' a sl v) : Orr Z h' b C := by
  obtain ⟨c, cA, A, q, O⟩ := F
  by_cases e : b = a
  · subst e; exact ⟨_, cA, A.same W, q, O⟩
  · exact ⟨c, cA, A.other W e, q, O⟩
theorem Orr.sto {b y : Addr} {C : String} (F : Orr Z h b C) (I : Ins Z h y C true) : Sto Z h b (.ref y) := by
  obtain ⟨c, cA, A, q, O⟩ := F
  exact Sto.ofV A q O I
theorem own_clone (X : Stand p l e R s m args below meth c T locs cells slots) (hx : p.tables.exec = Jvm.exec) (hby : c.code = bs) (hZ : Z.Warmed39 s.vm) {own ad : String} {idx : Nat} {a : Addr} {ty : FieldType} {n cap : Nat} {g : Nat → Int32} (hown : s.vm.findClass own = some m.cls) (w1 : (Jvm.Cond.methodLink own idx ⟨ad, "clone", "()Ljava/lang/Object;"⟩).before a0 Z = true) (w2 : (Jvm.Cond.sameMethod ad "java/lang/Object" "clone" "()Ljava/lang/Object;").before a0 Z = true) (w3 : (Jvm.Cond.native ⟨"java/lang/Object", "clone", "()Ljava/lang/Object;"⟩).before a0 Z = true)
    (w4 : (Jvm.Cond.instanceMethod ⟨"java/lang/Object", "clone", "()Ljava/lang/Object;"⟩).before a0 Z = true) (w5 : (Jvm.Cond.selects ad ⟨ad, "clone", "()Ljava/lang/Object;"⟩ ⟨"java/lang/Object", "clone", "()Ljava/lang/Object;"⟩).before a0 Z = true) (w6 : (Jvm.Cond.castable ad "java/lang/Cloneable").before a0 Z = true)
    (eT : T.heap = h) (F : Afi Z h a ty n g) (E : Exa Z h a ad) (hml : Ls.size = c.maxLocals) (hd : decode bs pc = .ok (.invokevirtual idx, 3)) (hf : 1 ≤ R.frames) (W : Nat) (hW : (st.map fun v => v.category).sum = W) (hl : W + 14 ≤ R.locals) (hcap : n ≤ cap) (hcl : cells + 1 ≤ R.cells) (hsl : slots + cap ≤ R.slots) (pc' : Nat) (hp : pc + 3 = pc')
    (k : ∀ T' h' (b : Addr), b = h.size → Stand p l e R s m args below meth c T' locs (cells + 1) (slots + cap) → T'.heap = h' → Ext h h' → Afi Z h' b ty n g → Exa Z h' b ad → Go p e below G T' (mkF m pc' Ls (.ref b :: st))) : Go p e below G T (mkF m pc Ls (.ref a :: st)) := by
  subst hp
  obtain ⟨cl, A, S, H⟩ := F
  have FC : FitC Z cl := fitC_of A fun i hi v hv => by rw [(H i (S ▸ hi)).1] at hv; cases hv; exact (H i (S ▸ hi)).2
  obtain ⟨T1, h1, X1, e1, E1, A1, Ex1, st1⟩ := cloneA X hx hZ hown w1 w2 w3 w4 w5 w6 eT A E FC (g := mkF m pc Ls (.ref a :: st)) rfl hml rfl (hb hby hd) hf (W := W) (by show 2 * 0 + _ ≤ _; omega) hl (cap := cap) (by rw [S]; exact hcap) hcl hsl
  exact Go.by (fun t q => st1 t q) (k T1 h1 _ rfl X1 e1 E1 ⟨_, A1, S, H⟩ Ex1)
theorem own_fld_start {t : Term} {C n d : String} {k : Int32} {a : Addr} (ev : t.eval args Z none [] Z = some (.ref a)) (hh : (Jvm.Cond.eq (.field t C n d) (.int k)).value args Z none Z [] = some true) : Fld Z Z.heap a C n d (.int k) := by
  obtain ⟨x, y, h1, h2, h3, h4⟩ := cmp_v (Or.inl hh)
  have h2' : y = .int k := (Option.some.inj h2).symm
  subst h2'
  obtain ⟨z, rfl⟩ := h4
  have q : z = k := by
    simp only [Cond.value, h1, h2] at hh
    exact of_decide_eq_true (Option.some.inj hh)
  subst q
  rw [fld_at ev] at h1
  exact Fld.start h1
end OwnGo

theorem d1_0 : decode method_3_code 0 = .ok (.iload_n 3, 1) := by decide +kernel
theorem d1_1 : decode method_3_code 1 = .ok (.iload 4, 2) := by decide +kernel
theorem d1_3 : decode method_3_code 3 = .ok (.if_icmp .ge 18, 3) := by decide +kernel
theorem d1_6 : decode method_3_code 6 = .ok (.iload_n 0, 1) := by decide +kernel
theorem d1_7 : decode method_3_code 7 = .ok (.aload_n 1, 1) := by decide +kernel
theorem d1_8 : decode method_3_code 8 = .ok (.iload_n 2, 1) := by decide +kernel
theorem d1_9 : decode method_3_code 9 = .ok (.iload_n 3, 1) := by decide +kernel
theorem d1_10 : decode method_3_code 10 = .ok (.iadd, 1) := by decide +kernel
theorem d1_11 : decode method_3_code 11 = .ok (.baload, 1) := by decide +kernel
theorem d1_12 : decode method_3_code 12 = .ok (.sipush 255, 3) := by decide +kernel
theorem d1_15 : decode method_3_code 15 = .ok (.iand, 1) := by decide +kernel
theorem d1_16 : decode method_3_code 16 = .ok (.ixor, 1) := by decide +kernel
theorem d1_17 : decode method_3_code 17 = .ok (.ldc 24, 2) := by decide +kernel
theorem d1_19 : decode method_3_code 19 = .ok (.imul, 1) := by decide +kernel
theorem d1_20 : decode method_3_code 20 = .ok (.ireturn, 1) := by decide +kernel
theorem d1_21 : decode method_3_code 21 = .ok (.iload_n 0, 1) := by decide +kernel
theorem d1_22 : decode method_3_code 22 = .ok (.ireturn, 1) := by decide +kernel
theorem pn_1 : plainName "com/example/kvadtree/kvadtree/StoreLayoutIdHashPinLaw" = true := by first | (simp [plainName, overriddenIn]; done) | decide +kernel
theorem d2_0 : decode method_4_code 0 = .ok (.iload_n 0, 1) := by decide +kernel
theorem d2_1 : decode method_4_code 1 = .ok (.istore_n 1, 1) := by decide +kernel
theorem d2_2 : decode method_4_code 2 = .ok (.iload_n 1, 1) := by decide +kernel
theorem d2_3 : decode method_4_code 3 = .ok (.iload_n 1, 1) := by decide +kernel
theorem d2_4 : decode method_4_code 4 = .ok (.bipush 16, 2) := by decide +kernel
theorem d2_6 : decode method_4_code 6 = .ok (.iushr, 1) := by decide +kernel
theorem d2_7 : decode method_4_code 7 = .ok (.ixor, 1) := by decide +kernel
theorem d2_8 : decode method_4_code 8 = .ok (.istore_n 1, 1) := by decide +kernel
theorem d2_9 : decode method_4_code 9 = .ok (.iload_n 1, 1) := by decide +kernel
theorem d2_10 : decode method_4_code 10 = .ok (.ldc 25, 2) := by decide +kernel
theorem d2_12 : decode method_4_code 12 = .ok (.imul, 1) := by decide +kernel
theorem d2_13 : decode method_4_code 13 = .ok (.istore_n 1, 1) := by decide +kernel
theorem d2_14 : decode method_4_code 14 = .ok (.iload_n 1, 1) := by decide +kernel
theorem d2_15 : decode method_4_code 15 = .ok (.iload_n 1, 1) := by decide +kernel
theorem d2_16 : decode method_4_code 16 = .ok (.bipush 13, 2) := by decide +kernel
theorem d2_18 : decode method_4_code 18 = .ok (.iushr, 1) := by decide +kernel
theorem d2_19 : decode method_4_code 19 = .ok (.ixor, 1) := by decide +kernel
theorem d2_20 : decode method_4_code 20 = .ok (.istore_n 1, 1) := by decide +kernel
theorem d2_21 : decode method_4_code 21 = .ok (.iload_n 1, 1) := by decide +kernel
theorem d2_22 : decode method_4_code 22 = .ok (.ldc 26, 2) := by decide +kernel
theorem d2_24 : decode method_4_code 24 = .ok (.imul, 1) := by decide +kernel
theorem d2_25 : decode method_4_code 25 = .ok (.istore_n 1, 1) := by decide +kernel
theorem d2_26 : decode method_4_code 26 = .ok (.iload_n 1, 1) := by decide +kernel
theorem d2_27 : decode method_4_code 27 = .ok (.iload_n 1, 1) := by decide +kernel
theorem d2_28 : decode method_4_code 28 = .ok (.bipush 16, 2) := by decide +kernel
theorem d2_30 : decode method_4_code 30 = .ok (.iushr, 1) := by decide +kernel
theorem d2_31 : decode method_4_code 31 = .ok (.ixor, 1) := by decide +kernel
theorem d2_32 : decode method_4_code 32 = .ok (.istore_n 1, 1) := by decide +kernel
theorem d2_33 : decode method_4_code 33 = .ok (.iload_n 1, 1) := by decide +kernel
theorem d2_34 : decode method_4_code 34 = .ok (.ireturn, 1) := by decide +kernel
theorem d3_0 : decode prog_59_method_10_code 0 = .ok (.ldc 104, 2) := by decide +kernel
theorem d3_2 : decode prog_59_method_10_code 2 = .ok (.istore_n 3, 1) := by decide +kernel
theorem d3_3 : decode prog_59_method_10_code 3 = .ok (.iload_n 1, 1) := by decide +kernel
theorem d3_4 : decode prog_59_method_10_code 4 = .ok (.istore 4, 2) := by decide +kernel
theorem d3_6 : decode prog_59_method_10_code 6 = .ok (.iload 4, 2) := by decide +kernel
theorem d3_8 : decode prog_59_method_10_code 8 = .ok (.iload_n 1, 1) := by decide +kernel
theorem d3_9 : decode prog_59_method_10_code 9 = .ok (.iload_n 2, 1) := by decide +kernel
theorem d3_10 : decode prog_59_method_10_code 10 = .ok (.iadd, 1) := by decide +kernel
theorem d3_11 : decode prog_59_method_10_code 11 = .ok (.if_icmp .ge 23, 3) := by decide +kernel
theorem d3_14 : decode prog_59_method_10_code 14 = .ok (.iload_n 3, 1) := by decide +kernel
theorem d3_15 : decode prog_59_method_10_code 15 = .ok (.aload_n 0, 1) := by decide +kernel
theorem d3_16 : decode prog_59_method_10_code 16 = .ok (.iload 4, 2) := by decide +kernel
theorem d3_18 : decode prog_59_method_10_code 18 = .ok (.baload, 1) := by decide +kernel
theorem d3_19 : decode prog_59_method_10_code 19 = .ok (.sipush 255, 3) := by decide +kernel
theorem d3_22 : decode prog_59_method_10_code 22 = .ok (.iand, 1) := by decide +kernel
theorem d3_23 : decode prog_59_method_10_code 23 = .ok (.ixor, 1) := by decide +kernel
theorem d3_24 : decode prog_59_method_10_code 24 = .ok (.ldc 105, 2) := by decide +kernel
theorem d3_26 : decode prog_59_method_10_code 26 = .ok (.imul, 1) := by decide +kernel
theorem d3_27 : decode prog_59_method_10_code 27 = .ok (.istore_n 3, 1) := by decide +kernel
theorem d3_28 : decode prog_59_method_10_code 28 = .ok (.iinc 4 1, 3) := by decide +kernel
theorem d3_31 : decode prog_59_method_10_code 31 = .ok (.goto (-25), 3) := by decide +kernel
theorem d3_34 : decode prog_59_method_10_code 34 = .ok (.iload_n 3, 1) := by decide +kernel
theorem d3_35 : decode prog_59_method_10_code 35 = .ok (.iload_n 3, 1) := by decide +kernel
theorem d3_36 : decode prog_59_method_10_code 36 = .ok (.bipush 16, 2) := by decide +kernel
theorem d3_38 : decode prog_59_method_10_code 38 = .ok (.iushr, 1) := by decide +kernel
theorem d3_39 : decode prog_59_method_10_code 39 = .ok (.ixor, 1) := by decide +kernel
theorem d3_40 : decode prog_59_method_10_code 40 = .ok (.istore_n 3, 1) := by decide +kernel
theorem d3_41 : decode prog_59_method_10_code 41 = .ok (.iload_n 3, 1) := by decide +kernel
theorem d3_42 : decode prog_59_method_10_code 42 = .ok (.ldc 106, 2) := by decide +kernel
theorem d3_44 : decode prog_59_method_10_code 44 = .ok (.imul, 1) := by decide +kernel
theorem d3_45 : decode prog_59_method_10_code 45 = .ok (.istore_n 3, 1) := by decide +kernel
theorem d3_46 : decode prog_59_method_10_code 46 = .ok (.iload_n 3, 1) := by decide +kernel
theorem d3_47 : decode prog_59_method_10_code 47 = .ok (.iload_n 3, 1) := by decide +kernel
theorem d3_48 : decode prog_59_method_10_code 48 = .ok (.bipush 13, 2) := by decide +kernel
theorem d3_50 : decode prog_59_method_10_code 50 = .ok (.iushr, 1) := by decide +kernel
theorem d3_51 : decode prog_59_method_10_code 51 = .ok (.ixor, 1) := by decide +kernel
theorem d3_52 : decode prog_59_method_10_code 52 = .ok (.istore_n 3, 1) := by decide +kernel
theorem d3_53 : decode prog_59_method_10_code 53 = .ok (.iload_n 3, 1) := by decide +kernel
theorem d3_54 : decode prog_59_method_10_code 54 = .ok (.ldc 107, 2) := by decide +kernel
theorem d3_56 : decode prog_59_method_10_code 56 = .ok (.imul, 1) := by decide +kernel
theorem d3_57 : decode prog_59_method_10_code 57 = .ok (.istore_n 3, 1) := by decide +kernel
theorem d3_58 : decode prog_59_method_10_code 58 = .ok (.iload_n 3, 1) := by decide +kernel
theorem d3_59 : decode prog_59_method_10_code 59 = .ok (.iload_n 3, 1) := by decide +kernel
theorem d3_60 : decode prog_59_method_10_code 60 = .ok (.bipush 16, 2) := by decide +kernel
theorem d3_62 : decode prog_59_method_10_code 62 = .ok (.iushr, 1) := by decide +kernel
theorem d3_63 : decode prog_59_method_10_code 63 = .ok (.ixor, 1) := by decide +kernel
theorem d3_64 : decode prog_59_method_10_code 64 = .ok (.istore_n 3, 1) := by decide +kernel
theorem d3_65 : decode prog_59_method_10_code 65 = .ok (.iload_n 3, 1) := by decide +kernel
theorem d3_66 : decode prog_59_method_10_code 66 = .ok (.ireturn, 1) := by decide +kernel
theorem pn_3 : plainName "com/example/kvadtree/kvadtree/StoreLayout" = true := by first | (simp [plainName, overriddenIn]; done) | decide +kernel
theorem pd_1 : parseMethodDescriptor "(I[BIII)I" = some ⟨[.int, (.array .byte), .int, .int, .int], some .int⟩ := by decide +kernel
theorem pd_0 : parseMethodDescriptor "(I)I" = some ⟨[.int], some .int⟩ := by decide +kernel
theorem pd_2 : parseMethodDescriptor "([BII)I" = some ⟨[(.array .byte), .int, .int], some .int⟩ := by decide +kernel
theorem own_sum {x y : Int32} (h : 0 ≤ x.toInt ∧ 0 ≤ y.toInt ∧ x.toInt + y.toInt ≤ 8) : (x + y).toInt = x.toInt + y.toInt := by
  have h1 := c_iadd x y
  have h2 := rng32 (x + y)
  omega
theorem own_inc {x : Int32} (h0 : 0 ≤ x.toInt) (h1 : x.toInt < 8) : (x + (1 : Int32)).toInt = x.toInt + 1 := by
  have h2 := c_iadd x (1 : Int32)
  have h3 := rng32 (x + (1 : Int32))
  simp only [Int32.reduceToInt] at h2
  omega
theorem own_incN {x : Int32} (h0 : 0 ≤ x.toInt) (h1 : x.toInt < 8) : Int32.toNatClampNeg (x + (1 : Int32)) = Int32.toNatClampNeg x + 1 := by
  have h2 := own_inc h0 h1
  simp only [Int32.toNatClampNeg]
  omega
def own_runG (f : Nat → Int32 → Int32) : Nat → Nat → Int32 → Int32
  | _, 0, h => h
  | i, k + 1, h => own_runG f (i + 1) k (f i h)
theorem own_runGS (f : Nat → Int32 → Int32) (i k : Nat) (h : Int32) : own_runG f i (k + 1) h = own_runG f (i + 1) k (f i h) := rfl
theorem own_runG0 (f : Nat → Int32 → Int32) (i : Nat) (h : Int32) : own_runG f i 0 h = h := rfl
def own_run (ar : Nat → Int32) (i k : Nat) (h : Int32) : Int32 := own_runG (fun i h => (h ^^^ (ar i &&& (255 : Int32))) * (16777619 : Int32)) i k h
theorem own_runS (ar : Nat → Int32) (i k : Nat) (h : Int32) : own_run ar i (k + 1) h = own_run ar (i + 1) k ((h ^^^ (ar i &&& (255 : Int32))) * (16777619 : Int32)) := by
  unfold own_run
  rw [own_runGS]
theorem own_run0 (ar : Nat → Int32) (i : Nat) (h : Int32) : own_run ar i 0 h = h := by
  unfold own_run
  rw [own_runG0]
theorem ef_1 (p1 : Int32) (a2 : Addr) (p3 : Int32) (p4 : Int32) (p5 : Int32) (m : MethodId) : entryFrame m #[(.int p1), (.ref a2), (.int p3), (.int p4), (.int p5)] 5 = mkF m 0 #[.val (.int p1), .val (.ref a2), .val (.int p3), .val (.int p4), .val (.int p5)] [] := by first | (simp [entryFrame, mkF, argsToLocals, Value.category]; done) | rfl
def f1 (p1 : Int32) (p3 : Int32) (p4 : Int32) (p5 : Int32) (ar_a2 : Nat → Int32) : Int32 := (if p4 < p5 then ((p1 ^^^ ((ar_a2 (Int32.toNatClampNeg (p3 + p4))) &&& (255 : Int32))) * (16777619 : Int32)) else p1)
def Q1 (Z : State) (p1 : Int32) (a2 : Addr) (p3 : Int32) (p4 : Int32) (p5 : Int32) (ar_a2 : Nat → Int32) (h0 : Heap) (n0 : Nat) (v : Option Value) (h : Heap) (L : List Loc) : Prop := v = some (.int (f1 p1 p3 p4 p5 ar_a2)) ∧ Fr n0 L ∧ h = h0
set_option maxRecDepth 65536 in
set_option maxHeartbeats 40000000 in
theorem rm1 (l : Launch) (Z : State) (a0 : Array Value) (hw : ∀ d ∈ tables_1, d.before a0 Z = true) (p1 : Int32) (a2 : Addr) (p3 : Int32) (p4 : Int32) (p5 : Int32) (ar_a2 : Nat → Int32) (h0 : Heap) (n0 : Nat) (Zs : n0 ≤ h0.size) (hin : p4 < p5 → ¬ ((p3 + p4) < 0 ∨ 8 ≤ Int32.toNatClampNeg (p3 + p4))) (A_a2 : Afi Z h0 a2 .byte 8 ar_a2) (E_a2 : Exa Z h0 a2 "[B") :
    Met1 l Z (⟨"com/example/kvadtree/kvadtree/StoreLayoutIdHashPinLaw", "fnv", "(I[BIII)I"⟩ : MethodName) method_3_code 5 (some .int) ({ frames := 0, cells := 0, slots := 0, locals := 0 } : Room) #[(.int p1), (.ref a2), (.int p3), (.int p4), (.int p5)] h0 (Q1 Z p1 a2 p3 p4 p5 ar_a2 h0 n0) := by
  refine own_met_of (plainFor_of_name pn_1) (ef_1 p1 a2 p3 p4 p5) ?_
  intro p e s m below meth c s₁ X hx hby hml hZ hown hnm hret hlk eT
  have hown : s.vm.findClass "com/example/kvadtree/kvadtree/StoreLayoutIdHashPinLaw" = some m.cls := hown
  have N := Fr.nil n0
  refine own_iloadN X hx hby p4 d1_0 rfl 1 rfl ?_
  refine own_iload X hx hby p5 d1_1 rfl 3 rfl ?_
  refine own_icmp_ge X hx hby d1_3 21 6 (by decide) rfl (fun c3 => ?_) (fun c3 => ?_)
  · skip
    refine own_iloadN X hx hby p1 d1_21 rfl 22 rfl ?_
    refine own_retI X hx hby hret hlk d1_22 (by decide) (by decide) ?_
    rw [eT]
    exact ⟨congrArg (fun z => some (Value.int z)) (by unfold f1; rw [if_neg c3]), N, rfl⟩
  · skip
    refine own_iloadN X hx hby p1 d1_6 rfl 7 rfl ?_
    refine own_aloadN X hx hby (.ref a2) d1_7 rfl rfl 8 rfl ?_
    refine own_iloadN X hx hby p3 d1_8 rfl 9 rfl ?_
    refine own_iloadN X hx hby p4 d1_9 rfl 10 rfl ?_
    refine own_iadd X hx hby d1_10 11 rfl ?_
    refine own_baload X hx hby hZ (ar_a2 (Int32.toNatClampNeg (p3 + p4))) eT A_a2 (hin c3) rfl d1_11 12 rfl ?_
    refine own_sipush X hx hby (255 : Int32) d1_12 rfl 15 rfl ?_
    refine own_iand X hx hby d1_15 16 rfl ?_
    refine own_ixor X hx hby d1_16 17 rfl ?_
    refine own_ldc X hx hby hZ (16777619 : Int32) hown (hw _ (List.mem_of_getElem? (i := 6) rfl)) d1_17 19 rfl ?_
    refine own_imul X hx hby d1_19 20 rfl ?_
    refine own_retI X hx hby hret hlk d1_20 (by decide) (by decide) ?_
    rw [eT]
    exact ⟨congrArg (fun z => some (Value.int z)) (by unfold f1; rw [if_pos c3]), N, rfl⟩
theorem ef_2 (p1 : Int32) (m : MethodId) : entryFrame m #[(.int p1)] 2 = mkF m 0 #[.val (.int p1), .unset] [] := by first | (simp [entryFrame, mkF, argsToLocals, Value.category]; done) | rfl
def Q2 (Z : State) (p1 : Int32) (h0 : Heap) (n0 : Nat) (v : Option Value) (h : Heap) (L : List Loc) : Prop := v = some (.int (((((p1 ^^^ ((p1.toUInt32 >>> ((16 : Int32) &&& 31).toUInt32).toInt32)) * (-2048144789 : Int32)) ^^^ ((((p1 ^^^ ((p1.toUInt32 >>> ((16 : Int32) &&& 31).toUInt32).toInt32)) * (-2048144789 : Int32)).toUInt32 >>> ((13 : Int32) &&& 31).toUInt32).toInt32)) * (-1028477387 : Int32)) ^^^ ((((((p1 ^^^ ((p1.toUInt32 >>> ((16 : Int32) &&& 31).toUInt32).toInt32)) * (-2048144789 : Int32)) ^^^ ((((p1 ^^^ ((p1.toUInt32 >>> ((16 : Int32) &&& 31).toUInt32).toInt32)) * (-2048144789 : Int32)).toUInt32 >>> ((13 : Int32) &&& 31).toUInt32).toInt32)) * (-1028477387 : Int32)).toUInt32 >>> ((16 : Int32) &&& 31).toUInt32).toInt32))) ∧ Fr n0 L ∧ h = h0
set_option maxRecDepth 65536 in
set_option maxHeartbeats 40000000 in
theorem rm2 (l : Launch) (Z : State) (a0 : Array Value) (hw : ∀ d ∈ tables_1, d.before a0 Z = true) (p1 : Int32) (h0 : Heap) (n0 : Nat) (Zs : n0 ≤ h0.size) :
    Met1 l Z (⟨"com/example/kvadtree/kvadtree/StoreLayoutIdHashPinLaw", "fmix32", "(I)I"⟩ : MethodName) method_4_code 2 (some .int) ({ frames := 0, cells := 0, slots := 0, locals := 0 } : Room) #[(.int p1)] h0 (Q2 Z p1 h0 n0) := by
  refine own_met_of (plainFor_of_name pn_1) (ef_2 p1) ?_
  intro p e s m below meth c s₁ X hx hby hml hZ hown hnm hret hlk eT
  have hown : s.vm.findClass "com/example/kvadtree/kvadtree/StoreLayoutIdHashPinLaw" = some m.cls := hown
  have N := Fr.nil n0
  refine own_iloadN X hx hby p1 d2_0 rfl 1 rfl ?_
  refine own_istoreN X hx hby d2_1 rfl (l' := #[.val (.int p1), .val (.int p1)]) rfl 2 rfl ?_
  refine own_iloadN X hx hby p1 d2_2 rfl 3 rfl ?_
  refine own_iloadN X hx hby p1 d2_3 rfl 4 rfl ?_
  refine own_bipush X hx hby (16 : Int32) d2_4 rfl 6 rfl ?_
  refine own_iushr X hx hby d2_6 7 rfl ?_
  refine own_ixor X hx hby d2_7 8 rfl ?_
  refine own_istoreN X hx hby d2_8 rfl (l' := #[.val (.int p1), .val (.int (p1 ^^^ ((p1.toUInt32 >>> ((16 : Int32) &&& 31).toUInt32).toInt32)))]) rfl 9 rfl ?_
  refine own_iloadN X hx hby (p1 ^^^ ((p1.toUInt32 >>> ((16 : Int32) &&& 31).toUInt32).toInt32)) d2_9 rfl 10 rfl ?_
  refine own_ldc X hx hby hZ (-2048144789 : Int32) hown (hw _ (List.mem_of_getElem? (i := 10) rfl)) d2_10 12 rfl ?_
  refine own_imul X hx hby d2_12 13 rfl ?_
  refine own_istoreN X hx hby d2_13 rfl (l' := #[.val (.int p1), .val (.int ((p1 ^^^ ((p1.toUInt32 >>> ((16 : Int32) &&& 31).toUInt32).toInt32)) * (-2048144789 : Int32)))]) rfl 14 rfl ?_
  refine own_iloadN X hx hby ((p1 ^^^ ((p1.toUInt32 >>> ((16 : Int32) &&& 31).toUInt32).toInt32)) * (-2048144789 : Int32)) d2_14 rfl 15 rfl ?_
  refine own_iloadN X hx hby ((p1 ^^^ ((p1.toUInt32 >>> ((16 : Int32) &&& 31).toUInt32).toInt32)) * (-2048144789 : Int32)) d2_15 rfl 16 rfl ?_
  refine own_bipush X hx hby (13 : Int32) d2_16 rfl 18 rfl ?_
  refine own_iushr X hx hby d2_18 19 rfl ?_
  refine own_ixor X hx hby d2_19 20 rfl ?_
  refine own_istoreN X hx hby d2_20 rfl (l' := #[.val (.int p1), .val (.int (((p1 ^^^ ((p1.toUInt32 >>> ((16 : Int32) &&& 31).toUInt32).toInt32)) * (-2048144789 : Int32)) ^^^ ((((p1 ^^^ ((p1.toUInt32 >>> ((16 : Int32) &&& 31).toUInt32).toInt32)) * (-2048144789 : Int32)).toUInt32 >>> ((13 : Int32) &&& 31).toUInt32).toInt32)))]) rfl 21 rfl ?_
  refine own_iloadN X hx hby (((p1 ^^^ ((p1.toUInt32 >>> ((16 : Int32) &&& 31).toUInt32).toInt32)) * (-2048144789 : Int32)) ^^^ ((((p1 ^^^ ((p1.toUInt32 >>> ((16 : Int32) &&& 31).toUInt32).toInt32)) * (-2048144789 : Int32)).toUInt32 >>> ((13 : Int32) &&& 31).toUInt32).toInt32)) d2_21 rfl 22 rfl ?_
  refine own_ldc X hx hby hZ (-1028477387 : Int32) hown (hw _ (List.mem_of_getElem? (i := 11) rfl)) d2_22 24 rfl ?_
  refine own_imul X hx hby d2_24 25 rfl ?_
  refine own_istoreN X hx hby d2_25 rfl (l' := #[.val (.int p1), .val (.int ((((p1 ^^^ ((p1.toUInt32 >>> ((16 : Int32) &&& 31).toUInt32).toInt32)) * (-2048144789 : Int32)) ^^^ ((((p1 ^^^ ((p1.toUInt32 >>> ((16 : Int32) &&& 31).toUInt32).toInt32)) * (-2048144789 : Int32)).toUInt32 >>> ((13 : Int32) &&& 31).toUInt32).toInt32)) * (-1028477387 : Int32)))]) rfl 26 rfl ?_
  refine own_iloadN X hx hby ((((p1 ^^^ ((p1.toUInt32 >>> ((16 : Int32) &&& 31).toUInt32).toInt32)) * (-2048144789 : Int32)) ^^^ ((((p1 ^^^ ((p1.toUInt32 >>> ((16 : Int32) &&& 31).toUInt32).toInt32)) * (-2048144789 : Int32)).toUInt32 >>> ((13 : Int32) &&& 31).toUInt32).toInt32)) * (-1028477387 : Int32)) d2_26 rfl 27 rfl ?_
  refine own_iloadN X hx hby ((((p1 ^^^ ((p1.toUInt32 >>> ((16 : Int32) &&& 31).toUInt32).toInt32)) * (-2048144789 : Int32)) ^^^ ((((p1 ^^^ ((p1.toUInt32 >>> ((16 : Int32) &&& 31).toUInt32).toInt32)) * (-2048144789 : Int32)).toUInt32 >>> ((13 : Int32) &&& 31).toUInt32).toInt32)) * (-1028477387 : Int32)) d2_27 rfl 28 rfl ?_
  refine own_bipush X hx hby (16 : Int32) d2_28 rfl 30 rfl ?_
  refine own_iushr X hx hby d2_30 31 rfl ?_
  refine own_ixor X hx hby d2_31 32 rfl ?_
  refine own_istoreN X hx hby d2_32 rfl (l' := #[.val (.int p1), .val (.int (((((p1 ^^^ ((p1.toUInt32 >>> ((16 : Int32) &&& 31).toUInt32).toInt32)) * (-2048144789 : Int32)) ^^^ ((((p1 ^^^ ((p1.toUInt32 >>> ((16 : Int32) &&& 31).toUInt32).toInt32)) * (-2048144789 : Int32)).toUInt32 >>> ((13 : Int32) &&& 31).toUInt32).toInt32)) * (-1028477387 : Int32)) ^^^ ((((((p1 ^^^ ((p1.toUInt32 >>> ((16 : Int32) &&& 31).toUInt32).toInt32)) * (-2048144789 : Int32)) ^^^ ((((p1 ^^^ ((p1.toUInt32 >>> ((16 : Int32) &&& 31).toUInt32).toInt32)) * (-2048144789 : Int32)).toUInt32 >>> ((13 : Int32) &&& 31).toUInt32).toInt32)) * (-1028477387 : Int32)).toUInt32 >>> ((16 : Int32) &&& 31).toUInt32).toInt32)))]) rfl 33 rfl ?_
  refine own_iloadN X hx hby (((((p1 ^^^ ((p1.toUInt32 >>> ((16 : Int32) &&& 31).toUInt32).toInt32)) * (-2048144789 : Int32)) ^^^ ((((p1 ^^^ ((p1.toUInt32 >>> ((16 : Int32) &&& 31).toUInt32).toInt32)) * (-2048144789 : Int32)).toUInt32 >>> ((13 : Int32) &&& 31).toUInt32).toInt32)) * (-1028477387 : Int32)) ^^^ ((((((p1 ^^^ ((p1.toUInt32 >>> ((16 : Int32) &&& 31).toUInt32).toInt32)) * (-2048144789 : Int32)) ^^^ ((((p1 ^^^ ((p1.toUInt32 >>> ((16 : Int32) &&& 31).toUInt32).toInt32)) * (-2048144789 : Int32)).toUInt32 >>> ((13 : Int32) &&& 31).toUInt32).toInt32)) * (-1028477387 : Int32)).toUInt32 >>> ((16 : Int32) &&& 31).toUInt32).toInt32)) d2_33 rfl 34 rfl ?_
  refine own_retI X hx hby hret hlk d2_34 (by decide) (by decide) ?_
  rw [eT]
  exact ⟨rfl, N, rfl⟩
def own_mix (p1 : Int32) : Int32 := (((((p1 ^^^ ((p1.toUInt32 >>> ((16 : Int32) &&& 31).toUInt32).toInt32)) * (-2048144789 : Int32)) ^^^ ((((p1 ^^^ ((p1.toUInt32 >>> ((16 : Int32) &&& 31).toUInt32).toInt32)) * (-2048144789 : Int32)).toUInt32 >>> ((13 : Int32) &&& 31).toUInt32).toInt32)) * (-1028477387 : Int32)) ^^^ ((((((p1 ^^^ ((p1.toUInt32 >>> ((16 : Int32) &&& 31).toUInt32).toInt32)) * (-2048144789 : Int32)) ^^^ ((((p1 ^^^ ((p1.toUInt32 >>> ((16 : Int32) &&& 31).toUInt32).toInt32)) * (-2048144789 : Int32)).toUInt32 >>> ((13 : Int32) &&& 31).toUInt32).toInt32)) * (-1028477387 : Int32)).toUInt32 >>> ((16 : Int32) &&& 31).toUInt32).toInt32))
theorem ef_3 (a1 : Addr) (p2 : Int32) (p3 : Int32) (m : MethodId) : entryFrame m #[(.ref a1), (.int p2), (.int p3)] 5 = mkF m 0 #[.val (.ref a1), .val (.int p2), .val (.int p3), .unset, .unset] [] := by first | (simp [entryFrame, mkF, argsToLocals, Value.category]; done) | rfl
def Q3 (Z : State) (a1 : Addr) (p2 : Int32) (p3 : Int32) (ar_a1 : Nat → Int32) (h0 : Heap) (n0 : Nat) (v : Option Value) (h : Heap) (L : List Loc) : Prop := v = some (.int (own_mix (own_run ar_a1 (Int32.toNatClampNeg p2) (Int32.toNatClampNeg p3) (-2128831035 : Int32)))) ∧ Fr n0 L ∧ h = h0
set_option maxRecDepth 65536 in
set_option maxHeartbeats 40000000 in
theorem rm3 (l : Launch) (Z : State) (a0 : Array Value) (hw : ∀ d ∈ tables_1, d.before a0 Z = true) (a1 : Addr) (p2 : Int32) (p3 : Int32) (ar_a1 : Nat → Int32) (h0 : Heap) (n0 : Nat) (Zs : n0 ≤ h0.size) (hb : 0 ≤ p2.toInt ∧ 0 ≤ p3.toInt ∧ p2.toInt + p3.toInt ≤ 8) (A_a1 : Afi Z h0 a1 .byte 8 ar_a1) (E_a1 : Exa Z h0 a1 "[B") :
    Met1 l Z (⟨"com/example/kvadtree/kvadtree/StoreLayout", "idHash", "([BII)I"⟩ : MethodName) prog_59_method_10_code 5 (some .int) ({ frames := 0, cells := 0, slots := 0, locals := 0 } : Room) #[(.ref a1), (.int p2), (.int p3)] h0 (Q3 Z a1 p2 p3 ar_a1 h0 n0) := by
  refine own_met_of (plainFor_of_name pn_3) (ef_3 a1 p2 p3) ?_
  intro p e s m below meth c s₁ X hx hby hml hZ hown hnm hret hlk eT
  have hown : s.vm.findClass "com/example/kvadtree/kvadtree/StoreLayout" = some m.cls := hown
  have N := Fr.nil n0
  refine own_ldc X hx hby hZ (-2128831035 : Int32) hown (hw _ (List.mem_of_getElem? (i := 16) rfl)) d3_0 2 rfl ?_
  refine own_istoreN X hx hby d3_2 rfl (l' := #[.val (.ref a1), .val (.int p2), .val (.int p3), .val (.int (-2128831035 : Int32)), .unset]) rfl 3 rfl ?_
  refine own_iloadN X hx hby p2 d3_3 rfl 4 rfl ?_
  refine own_istore X hx hby d3_4 rfl (l' := #[.val (.ref a1), .val (.int p2), .val (.int p3), .val (.int (-2128831035 : Int32)), .val (.int p2)]) rfl 6 rfl ?_
  have loop : ∀ (k : Nat) (hv i : Int32), i.toInt + k = p2.toInt + p3.toInt → p2.toInt ≤ i.toInt → own_run ar_a1 (Int32.toNatClampNeg i) k hv = (own_run ar_a1 (Int32.toNatClampNeg p2) (Int32.toNatClampNeg p3) (-2128831035 : Int32)) → Go p e below (FinQ s (Q3 Z a1 p2 p3 ar_a1 h0 n0) ({ frames := 0, cells := 0, slots := 0, locals := 0 } : Room).cells ({ frames := 0, cells := 0, slots := 0, locals := 0 } : Room).slots) s₁ (mkF m 6 #[.val (.ref a1), .val (.int p2), .val (.int p3), .val (.int hv), .val (.int i)] []) := by
    intro k
    induction k with
    | zero =>
      intro hv i hk hi hr
      refine own_iload X hx hby i d3_6 rfl 8 rfl ?_
      refine own_iloadN X hx hby p2 d3_8 rfl 9 rfl ?_
      refine own_iloadN X hx hby p3 d3_9 rfl 10 rfl ?_
      refine own_iadd X hx hby d3_10 11 rfl ?_
      have c11 : ¬ i < (p2 + p3) := by rw [Int32.lt_iff_toInt_lt, own_sum hb]; omega
      refine own_icmp_ge X hx hby d3_11 34 14 (by decide) rfl (fun _ => ?_) (fun q => absurd q c11)
      refine own_iloadN X hx hby hv d3_34 rfl 35 rfl ?_
      refine own_iloadN X hx hby hv d3_35 rfl 36 rfl ?_
      refine own_bipush X hx hby (16 : Int32) d3_36 rfl 38 rfl ?_
      refine own_iushr X hx hby d3_38 39 rfl ?_
      refine own_ixor X hx hby d3_39 40 rfl ?_
      refine own_istoreN X hx hby d3_40 rfl (l' := #[.val (.ref a1), .val (.int p2), .val (.int p3), .val (.int (hv ^^^ ((hv.toUInt32 >>> ((16 : Int32) &&& 31).toUInt32).toInt32))), .val (.int i)]) rfl 41 rfl ?_
      refine own_iloadN X hx hby (hv ^^^ ((hv.toUInt32 >>> ((16 : Int32) &&& 31).toUInt32).toInt32)) d3_41 rfl 42 rfl ?_
      refine own_ldc X hx hby hZ (-2048144789 : Int32) hown (hw _ (List.mem_of_getElem? (i := 18) rfl)) d3_42 44 rfl ?_
      refine own_imul X hx hby d3_44 45 rfl ?_
      refine own_istoreN X hx hby d3_45 rfl (l' := #[.val (.ref a1), .val (.int p2), .val (.int p3), .val (.int ((hv ^^^ ((hv.toUInt32 >>> ((16 : Int32) &&& 31).toUInt32).toInt32)) * (-2048144789 : Int32))), .val (.int i)]) rfl 46 rfl ?_
      refine own_iloadN X hx hby ((hv ^^^ ((hv.toUInt32 >>> ((16 : Int32) &&& 31).toUInt32).toInt32)) * (-2048144789 : Int32)) d3_46 rfl 47 rfl ?_
      refine own_iloadN X hx hby ((hv ^^^ ((hv.toUInt32 >>> ((16 : Int32) &&& 31).toUInt32).toInt32)) * (-2048144789 : Int32)) d3_47 rfl 48 rfl ?_
      refine own_bipush X hx hby (13 : Int32) d3_48 rfl 50 rfl ?_
      refine own_iushr X hx hby d3_50 51 rfl ?_
      refine own_ixor X hx hby d3_51 52 rfl ?_
      refine own_istoreN X hx hby d3_52 rfl (l' := #[.val (.ref a1), .val (.int p2), .val (.int p3), .val (.int (((hv ^^^ ((hv.toUInt32 >>> ((16 : Int32) &&& 31).toUInt32).toInt32)) * (-2048144789 : Int32)) ^^^ ((((hv ^^^ ((hv.toUInt32 >>> ((16 : Int32) &&& 31).toUInt32).toInt32)) * (-2048144789 : Int32)).toUInt32 >>> ((13 : Int32) &&& 31).toUInt32).toInt32))), .val (.int i)]) rfl 53 rfl ?_
      refine own_iloadN X hx hby (((hv ^^^ ((hv.toUInt32 >>> ((16 : Int32) &&& 31).toUInt32).toInt32)) * (-2048144789 : Int32)) ^^^ ((((hv ^^^ ((hv.toUInt32 >>> ((16 : Int32) &&& 31).toUInt32).toInt32)) * (-2048144789 : Int32)).toUInt32 >>> ((13 : Int32) &&& 31).toUInt32).toInt32)) d3_53 rfl 54 rfl ?_
      refine own_ldc X hx hby hZ (-1028477387 : Int32) hown (hw _ (List.mem_of_getElem? (i := 19) rfl)) d3_54 56 rfl ?_
      refine own_imul X hx hby d3_56 57 rfl ?_
      refine own_istoreN X hx hby d3_57 rfl (l' := #[.val (.ref a1), .val (.int p2), .val (.int p3), .val (.int ((((hv ^^^ ((hv.toUInt32 >>> ((16 : Int32) &&& 31).toUInt32).toInt32)) * (-2048144789 : Int32)) ^^^ ((((hv ^^^ ((hv.toUInt32 >>> ((16 : Int32) &&& 31).toUInt32).toInt32)) * (-2048144789 : Int32)).toUInt32 >>> ((13 : Int32) &&& 31).toUInt32).toInt32)) * (-1028477387 : Int32))), .val (.int i)]) rfl 58 rfl ?_
      refine own_iloadN X hx hby ((((hv ^^^ ((hv.toUInt32 >>> ((16 : Int32) &&& 31).toUInt32).toInt32)) * (-2048144789 : Int32)) ^^^ ((((hv ^^^ ((hv.toUInt32 >>> ((16 : Int32) &&& 31).toUInt32).toInt32)) * (-2048144789 : Int32)).toUInt32 >>> ((13 : Int32) &&& 31).toUInt32).toInt32)) * (-1028477387 : Int32)) d3_58 rfl 59 rfl ?_
      refine own_iloadN X hx hby ((((hv ^^^ ((hv.toUInt32 >>> ((16 : Int32) &&& 31).toUInt32).toInt32)) * (-2048144789 : Int32)) ^^^ ((((hv ^^^ ((hv.toUInt32 >>> ((16 : Int32) &&& 31).toUInt32).toInt32)) * (-2048144789 : Int32)).toUInt32 >>> ((13 : Int32) &&& 31).toUInt32).toInt32)) * (-1028477387 : Int32)) d3_59 rfl 60 rfl ?_
      refine own_bipush X hx hby (16 : Int32) d3_60 rfl 62 rfl ?_
      refine own_iushr X hx hby d3_62 63 rfl ?_
      refine own_ixor X hx hby d3_63 64 rfl ?_
      refine own_istoreN X hx hby d3_64 rfl (l' := #[.val (.ref a1), .val (.int p2), .val (.int p3), .val (.int (((((hv ^^^ ((hv.toUInt32 >>> ((16 : Int32) &&& 31).toUInt32).toInt32)) * (-2048144789 : Int32)) ^^^ ((((hv ^^^ ((hv.toUInt32 >>> ((16 : Int32) &&& 31).toUInt32).toInt32)) * (-2048144789 : Int32)).toUInt32 >>> ((13 : Int32) &&& 31).toUInt32).toInt32)) * (-1028477387 : Int32)) ^^^ ((((((hv ^^^ ((hv.toUInt32 >>> ((16 : Int32) &&& 31).toUInt32).toInt32)) * (-2048144789 : Int32)) ^^^ ((((hv ^^^ ((hv.toUInt32 >>> ((16 : Int32) &&& 31).toUInt32).toInt32)) * (-2048144789 : Int32)).toUInt32 >>> ((13 : Int32) &&& 31).toUInt32).toInt32)) * (-1028477387 : Int32)).toUInt32 >>> ((16 : Int32) &&& 31).toUInt32).toInt32))), .val (.int i)]) rfl 65 rfl ?_
      refine own_iloadN X hx hby (((((hv ^^^ ((hv.toUInt32 >>> ((16 : Int32) &&& 31).toUInt32).toInt32)) * (-2048144789 : Int32)) ^^^ ((((hv ^^^ ((hv.toUInt32 >>> ((16 : Int32) &&& 31).toUInt32).toInt32)) * (-2048144789 : Int32)).toUInt32 >>> ((13 : Int32) &&& 31).toUInt32).toInt32)) * (-1028477387 : Int32)) ^^^ ((((((hv ^^^ ((hv.toUInt32 >>> ((16 : Int32) &&& 31).toUInt32).toInt32)) * (-2048144789 : Int32)) ^^^ ((((hv ^^^ ((hv.toUInt32 >>> ((16 : Int32) &&& 31).toUInt32).toInt32)) * (-2048144789 : Int32)).toUInt32 >>> ((13 : Int32) &&& 31).toUInt32).toInt32)) * (-1028477387 : Int32)).toUInt32 >>> ((16 : Int32) &&& 31).toUInt32).toInt32)) d3_65 rfl 66 rfl ?_
      refine own_retI X hx hby hret hlk d3_66 (by decide) (by decide) ?_
      rw [eT]
      exact ⟨congrArg (fun z => some (Value.int z)) (by rw [← hr, own_run0]; rfl), N, rfl⟩
    | succ k ih =>
      intro hv i hk hi hr
      refine own_iload X hx hby i d3_6 rfl 8 rfl ?_
      refine own_iloadN X hx hby p2 d3_8 rfl 9 rfl ?_
      refine own_iloadN X hx hby p3 d3_9 rfl 10 rfl ?_
      refine own_iadd X hx hby d3_10 11 rfl ?_
      have c11 : i < (p2 + p3) := by rw [Int32.lt_iff_toInt_lt, own_sum hb]; omega
      refine own_icmp_ge X hx hby d3_11 34 14 (by decide) rfl (fun q => absurd c11 q) (fun _ => ?_)
      refine own_iloadN X hx hby hv d3_14 rfl 15 rfl ?_
      refine own_aloadN X hx hby (.ref a1) d3_15 rfl rfl 16 rfl ?_
      refine own_iload X hx hby i d3_16 rfl 18 rfl ?_
      refine own_baload X hx hby hZ (ar_a1 (Int32.toNatClampNeg i)) eT A_a1 (own_in (by omega) (by omega)) rfl d3_18 19 rfl ?_
      refine own_sipush X hx hby (255 : Int32) d3_19 rfl 22 rfl ?_
      refine own_iand X hx hby d3_22 23 rfl ?_
      refine own_ixor X hx hby d3_23 24 rfl ?_
      refine own_ldc X hx hby hZ (16777619 : Int32) hown (hw _ (List.mem_of_getElem? (i := 17) rfl)) d3_24 26 rfl ?_
      refine own_imul X hx hby d3_26 27 rfl ?_
      refine own_istoreN X hx hby d3_27 rfl (l' := #[.val (.ref a1), .val (.int p2), .val (.int p3), .val (.int ((hv ^^^ ((ar_a1 (Int32.toNatClampNeg i)) &&& (255 : Int32))) * (16777619 : Int32))), .val (.int i)]) rfl 28 rfl ?_
      refine own_iinc X hx hby d3_28 (x := i) rfl rfl (l' := #[.val (.ref a1), .val (.int p2), .val (.int p3), .val (.int ((hv ^^^ ((ar_a1 (Int32.toNatClampNeg i)) &&& (255 : Int32))) * (16777619 : Int32))), .val (.int (i + (1 : Int32)))]) rfl 31 rfl ?_
      refine own_goto X hx hby d3_31 6 (by decide) ?_
      exact ih _ _ (by rw [own_inc (by omega) (by omega)]; omega) (by rw [own_inc (by omega) (by omega)]; omega) (by rw [own_incN (by omega) (by omega), ← own_runS]; exact hr)
  exact loop (Int32.toNatClampNeg p3) _ _ (by have := hb.2.1; simp only [Int32.toNatClampNeg]; omega) (Int.le_refl _) rfl
theorem ef_0 (q1 : Int64) (p2 : Int32) (m : MethodId) : entryFrame m #[(.long q1), (.int p2)] maxLocals = mkF m 0 #[.val (.long q1), .second, .val (.int p2), .unset, .unset, .unset, .unset, .unset] [] := by first | (simp [entryFrame, mkF, argsToLocals, Value.category, maxLocals]; done) | rfl
def Q0 (Z : State) (q1 : Int64) (p2 : Int32) (h0 : Heap) (n0 : Nat) (v : Option Value) (h : Heap) (L : List Loc) : Prop := v = some (.int (1 : Int32)) ∧ Fr n0 L
theorem own_n (z v : Int32) (e : ((z &&& (15 : Int32)) % (9 : Int32)) = v) : 0 ≤ v.toInt ∧ v.toInt ≤ 8 := by
  have h := c_mask z (15 : Int32) 4 (by decide) (by decide)
  have h1 := c_irem (z &&& (15 : Int32)) (9 : Int32) 9 (by decide)
  rw [e] at h1
  have h2 := h1.1 (by omega)
  omega
theorem own_nine {v : Int32} (h : 0 ≤ v.toInt ∧ v.toInt ≤ 8) : ((9 : Int32) - v).toInt = 9 - v.toInt := by
  have h1 := c_isub (9 : Int32) v
  have h2 := rng32 ((9 : Int32) - v)
  simp only [Int32.reduceToInt] at h1
  omega
theorem own_nz {v : Int32} (h : 0 ≤ v.toInt ∧ v.toInt ≤ 8) : ((9 : Int32) - v) ≠ (0 : Int32) := by
  intro q
  have h1 := own_nine h
  rw [q] at h1
  simp only [Int32.reduceToInt] at h1
  omega
theorem own_o {x v w : Int32} (h : 0 ≤ v.toInt ∧ v.toInt ≤ 8) (e : ((x &&& (15 : Int32)) % ((9 : Int32) - v)) = w) : 0 ≤ w.toInt ∧ 0 ≤ v.toInt ∧ w.toInt + v.toInt ≤ 8 := by
  have h1 := c_mask x (15 : Int32) 4 (by decide) (by decide)
  have h2 := c_iremV (x &&& (15 : Int32)) ((9 : Int32) - v)
  have h3 := own_nine h
  rw [e] at h2
  have h4 := h2.1 (by omega) (by omega)
  omega
theorem own_hin {w v k : Int32} (h : 0 ≤ w.toInt ∧ 0 ≤ v.toInt ∧ w.toInt + v.toInt ≤ 8) (hk : 0 ≤ k.toInt) : k < v → ¬ ((w + k) < 0 ∨ 8 ≤ Int32.toNatClampNeg (w + k)) := by
  intro q
  rw [Int32.lt_iff_toInt_lt] at q
  have h1 := own_sum (x := w) (y := k) ⟨h.1, hk, by omega⟩
  exact own_in (by omega) (by omega)
theorem own_step (ar : Nat → Int32) (w v k hv h2 : Int32) (h : 0 ≤ w.toInt ∧ 0 ≤ v.toInt ∧ w.toInt + v.toInt ≤ 8) (N i : Nat) (hk : k.toInt = i) (hn : v.toInt = N) (e : f1 hv w k v ar = h2) : own_run ar (Int32.toNatClampNeg w + i) (N - i) hv = own_run ar (Int32.toNatClampNeg w + (i + 1)) (N - (i + 1)) h2 := by
  subst e
  unfold f1
  by_cases q : i < N
  · rw [if_pos (by rw [Int32.lt_iff_toInt_lt]; omega)]
    have h1 := own_sum (x := w) (y := k) ⟨h.1, by omega, by omega⟩
    have h2 : Int32.toNatClampNeg (w + k) = Int32.toNatClampNeg w + i := by simp only [Int32.toNatClampNeg]; omega
    have h3 : N - i = (N - (i + 1)) + 1 := by omega
    rw [h2, h3, own_runS, Nat.add_assoc]
  · rw [if_neg (by rw [Int32.lt_iff_toInt_lt]; omega)]
    have h3 : N - i = 0 := by omega
    have h4 : N - (i + 1) = 0 := by omega
    rw [h3, h4, own_run0, own_run0]
theorem own_law (ar : Nat → Int32) (w v h1 h2 h3 h4 h5 h6 h7 h8 r : Int32) (h : 0 ≤ w.toInt ∧ 0 ≤ v.toInt ∧ w.toInt + v.toInt ≤ 8) (e1 : f1 (-2128831035 : Int32) w (0 : Int32) v ar = h1) (e2 : f1 h1 w (1 : Int32) v ar = h2) (e3 : f1 h2 w (2 : Int32) v ar = h3) (e4 : f1 h3 w (3 : Int32) v ar = h4)
    (e5 : f1 h4 w (4 : Int32) v ar = h5) (e6 : f1 h5 w (5 : Int32) v ar = h6) (e7 : f1 h6 w (6 : Int32) v ar = h7) (e8 : f1 h7 w (7 : Int32) v ar = h8) (er : own_mix h8 = r) : own_mix (own_run ar (Int32.toNatClampNeg w) (Int32.toNatClampNeg v) (-2128831035 : Int32)) = r := by
  have hn : v.toInt = (Int32.toNatClampNeg v : Int) := by simp only [Int32.toNatClampNeg]; omega
  generalize Int32.toNatClampNeg v = n at *
  have a1 := own_step ar w v (0 : Int32) (-2128831035 : Int32) h1 h n 0 (by decide) hn e1
  have a2 := own_step ar w v (1 : Int32) h1 h2 h n 1 (by decide) hn e2
  have a3 := own_step ar w v (2 : Int32) h2 h3 h n 2 (by decide) hn e3
  have a4 := own_step ar w v (3 : Int32) h3 h4 h n 3 (by decide) hn e4
  have a5 := own_step ar w v (4 : Int32) h4 h5 h n 4 (by decide) hn e5
  have a6 := own_step ar w v (5 : Int32) h5 h6 h n 5 (by decide) hn e6
  have a7 := own_step ar w v (6 : Int32) h6 h7 h n 6 (by decide) hn e7
  have a8 := own_step ar w v (7 : Int32) h7 h8 h n 7 (by decide) hn e8
  have a9 := ((((((a1.trans a2).trans a3).trans a4).trans a5).trans a6).trans a7).trans a8
  have h9 : n - (7 + 1) = 0 := by omega
  rw [h9, own_run0, Nat.sub_zero, Nat.add_zero] at a9
  rw [a9]
  exact er
set_option maxRecDepth 65536 in
set_option maxHeartbeats 40000000 in
theorem rm0 (l : Launch) (Z : State) (a0 : Array Value) (hw : ∀ d ∈ tables_1, d.before a0 Z = true) (q1 : Int64) (p2 : Int32) (h0 : Heap) (n0 : Nat) (Zs : n0 ≤ h0.size) :
    Met1 l Z x code maxLocals ret room_1 #[(.long q1), (.int p2)] h0 (Q0 Z q1 p2 h0 n0) := by
  refine own_met_of (plainFor_of_name pn_1) (ef_0 q1 p2) ?_
  intro p e s m below meth c s₁ X hx hby hml hZ hown hnm hret hlk eT
  have hown : s.vm.findClass "com/example/kvadtree/kvadtree/StoreLayoutIdHashPinLaw" = some m.cls := hown
  have N := Fr.nil n0
  have K := Keep.refl h0 []
  refine own_bipush X hx hby (8 : Int32) at_0 rfl 2 rfl ?_
  refine own_newarray X hx hby hZ (hw _ (List.mem_of_getElem? (i := 0) rfl)) eT at_2 (z := (8 : Int32)) (by decide) (n := 8) rfl (cap := 8) (by decide) (by decide) (by decide) (by decide) (ad := "[B") rfl 4 rfl ?_
  intro T2 h2 b2 gb2 X eT Ex A A2
  have g_b2 : n0 ≤ b2 := by rw [gb2]; exact Zs
  have sz_b2 : h0.size ≤ b2 := by rw [gb2]; exact K.1
  have A_b2 : Afi Z h2 b2 .byte 8 (fun _ => (0 : Int32)) := A
  have E_b2 := A2
  have K := K.ext Ex
  have Zs := Nat.le_trans Zs Ex.1
  refine own_astoreN X hx hby at_4 rfl (l' := #[.val (.long q1), .second, .val (.int p2), .val (.ref b2), .unset, .unset, .unset, .unset]) rfl 5 rfl ?_
  refine own_aloadN X hx hby (.ref b2) at_5 rfl rfl 6 rfl ?_
  refine own_iconst X hx hby (0 : Int32) at_6 rfl 7 rfl ?_
  refine own_lloadN X hx hby q1 at_7 rfl 8 rfl ?_
  refine own_l2i X hx hby at_8 9 rfl ?_
  refine own_i2b X hx hby at_9 10 rfl ?_
  refine own_bastore X hx hby hZ eT A_b2 (by decide) at_10 11 rfl ?_
  intro T10 h10 X eT W A
  have E_b2 := E_b2.wr W
  have A_b2 : Afi Z h10 b2 .byte 8 (updI (fun _ => (0 : Int32)) 0 (nar .byte ((q1.toInt32).toInt8.toInt32))) := A
  have N := Fr.snoc X N g_b2
  have K := K.wr W (Or.inr sz_b2)
  have Zs := Nat.le_trans Zs (Keep.of_wr W).1
  refine own_aloadN X hx hby (.ref b2) at_11 rfl rfl 12 rfl ?_
  refine own_iconst X hx hby (1 : Int32) at_12 rfl 13 rfl ?_
  refine own_lloadN X hx hby q1 at_13 rfl 14 rfl ?_
  refine own_bipush X hx hby (8 : Int32) at_14 rfl 16 rfl ?_
  refine own_lushr X hx hby at_16 17 rfl ?_
  refine own_l2i X hx hby at_17 18 rfl ?_
  refine own_i2b X hx hby at_18 19 rfl ?_
  refine own_bastore X hx hby hZ eT A_b2 (by decide) at_19 20 rfl ?_
  intro T19 h19 X eT W A
  have E_b2 := E_b2.wr W
  have A_b2 : Afi Z h19 b2 .byte 8 (updI (updI (fun _ => (0 : Int32)) 0 (nar .byte ((q1.toInt32).toInt8.toInt32))) 1 (nar .byte ((((q1.toUInt64 >>> ((8 : Int32) &&& 0x3f).toInt64.toUInt64).toInt64).toInt32).toInt8.toInt32))) := A
  have N := Fr.snoc X N g_b2
  have K := K.wr W (Or.inr sz_b2)
  have Zs := Nat.le_trans Zs (Keep.of_wr W).1
  refine own_aloadN X hx hby (.ref b2) at_20 rfl rfl 21 rfl ?_
  refine own_iconst X hx hby (2 : Int32) at_21 rfl 22 rfl ?_
  refine own_lloadN X hx hby q1 at_22 rfl 23 rfl ?_
  refine own_bipush X hx hby (16 : Int32) at_23 rfl 25 rfl ?_
  refine own_lushr X hx hby at_25 26 rfl ?_
  refine own_l2i X hx hby at_26 27 rfl ?_
  refine own_i2b X hx hby at_27 28 rfl ?_
  refine own_bastore X hx hby hZ eT A_b2 (by decide) at_28 29 rfl ?_
  intro T28 h28 X eT W A
  have E_b2 := E_b2.wr W
  have A_b2 : Afi Z h28 b2 .byte 8 (updI (updI (updI (fun _ => (0 : Int32)) 0 (nar .byte ((q1.toInt32).toInt8.toInt32))) 1 (nar .byte ((((q1.toUInt64 >>> ((8 : Int32) &&& 0x3f).toInt64.toUInt64).toInt64).toInt32).toInt8.toInt32))) 2 (nar .byte ((((q1.toUInt64 >>> ((16 : Int32) &&& 0x3f).toInt64.toUInt64).toInt64).toInt32).toInt8.toInt32))) := A
  have N := Fr.snoc X N g_b2
  have K := K.wr W (Or.inr sz_b2)
  have Zs := Nat.le_trans Zs (Keep.of_wr W).1
  refine own_aloadN X hx hby (.ref b2) at_29 rfl rfl 30 rfl ?_
  refine own_iconst X hx hby (3 : Int32) at_30 rfl 31 rfl ?_
  refine own_lloadN X hx hby q1 at_31 rfl 32 rfl ?_
  refine own_bipush X hx hby (24 : Int32) at_32 rfl 34 rfl ?_
  refine own_lushr X hx hby at_34 35 rfl ?_
  refine own_l2i X hx hby at_35 36 rfl ?_
  refine own_i2b X hx hby at_36 37 rfl ?_
  refine own_bastore X hx hby hZ eT A_b2 (by decide) at_37 38 rfl ?_
  intro T37 h37 X eT W A
  have E_b2 := E_b2.wr W
  have A_b2 : Afi Z h37 b2 .byte 8 (updI (updI (updI (updI (fun _ => (0 : Int32)) 0 (nar .byte ((q1.toInt32).toInt8.toInt32))) 1 (nar .byte ((((q1.toUInt64 >>> ((8 : Int32) &&& 0x3f).toInt64.toUInt64).toInt64).toInt32).toInt8.toInt32))) 2 (nar .byte ((((q1.toUInt64 >>> ((16 : Int32) &&& 0x3f).toInt64.toUInt64).toInt64).toInt32).toInt8.toInt32))) 3 (nar .byte ((((q1.toUInt64 >>> ((24 : Int32) &&& 0x3f).toInt64.toUInt64).toInt64).toInt32).toInt8.toInt32))) := A
  have N := Fr.snoc X N g_b2
  have K := K.wr W (Or.inr sz_b2)
  have Zs := Nat.le_trans Zs (Keep.of_wr W).1
  refine own_aloadN X hx hby (.ref b2) at_38 rfl rfl 39 rfl ?_
  refine own_iconst X hx hby (4 : Int32) at_39 rfl 40 rfl ?_
  refine own_lloadN X hx hby q1 at_40 rfl 41 rfl ?_
  refine own_bipush X hx hby (32 : Int32) at_41 rfl 43 rfl ?_
  refine own_lushr X hx hby at_43 44 rfl ?_
  refine own_l2i X hx hby at_44 45 rfl ?_
  refine own_i2b X hx hby at_45 46 rfl ?_
  refine own_bastore X hx hby hZ eT A_b2 (by decide) at_46 47 rfl ?_
  intro T46 h46 X eT W A
  have E_b2 := E_b2.wr W
  have A_b2 : Afi Z h46 b2 .byte 8 (updI (updI (updI (updI (updI (fun _ => (0 : Int32)) 0 (nar .byte ((q1.toInt32).toInt8.toInt32))) 1 (nar .byte ((((q1.toUInt64 >>> ((8 : Int32) &&& 0x3f).toInt64.toUInt64).toInt64).toInt32).toInt8.toInt32))) 2 (nar .byte ((((q1.toUInt64 >>> ((16 : Int32) &&& 0x3f).toInt64.toUInt64).toInt64).toInt32).toInt8.toInt32))) 3 (nar .byte ((((q1.toUInt64 >>> ((24 : Int32) &&& 0x3f).toInt64.toUInt64).toInt64).toInt32).toInt8.toInt32))) 4 (nar .byte ((((q1.toUInt64 >>> ((32 : Int32) &&& 0x3f).toInt64.toUInt64).toInt64).toInt32).toInt8.toInt32))) := A
  have N := Fr.snoc X N g_b2
  have K := K.wr W (Or.inr sz_b2)
  have Zs := Nat.le_trans Zs (Keep.of_wr W).1
  refine own_aloadN X hx hby (.ref b2) at_47 rfl rfl 48 rfl ?_
  refine own_iconst X hx hby (5 : Int32) at_48 rfl 49 rfl ?_
  refine own_lloadN X hx hby q1 at_49 rfl 50 rfl ?_
  refine own_bipush X hx hby (40 : Int32) at_50 rfl 52 rfl ?_
  refine own_lushr X hx hby at_52 53 rfl ?_
  refine own_l2i X hx hby at_53 54 rfl ?_
  refine own_i2b X hx hby at_54 55 rfl ?_
  refine own_bastore X hx hby hZ eT A_b2 (by decide) at_55 56 rfl ?_
  intro T55 h55 X eT W A
  have E_b2 := E_b2.wr W
  have A_b2 : Afi Z h55 b2 .byte 8 (updI (updI (updI (updI (updI (updI (fun _ => (0 : Int32)) 0 (nar .byte ((q1.toInt32).toInt8.toInt32))) 1 (nar .byte ((((q1.toUInt64 >>> ((8 : Int32) &&& 0x3f).toInt64.toUInt64).toInt64).toInt32).toInt8.toInt32))) 2 (nar .byte ((((q1.toUInt64 >>> ((16 : Int32) &&& 0x3f).toInt64.toUInt64).toInt64).toInt32).toInt8.toInt32))) 3 (nar .byte ((((q1.toUInt64 >>> ((24 : Int32) &&& 0x3f).toInt64.toUInt64).toInt64).toInt32).toInt8.toInt32))) 4 (nar .byte ((((q1.toUInt64 >>> ((32 : Int32) &&& 0x3f).toInt64.toUInt64).toInt64).toInt32).toInt8.toInt32))) 5 (nar .byte ((((q1.toUInt64 >>> ((40 : Int32) &&& 0x3f).toInt64.toUInt64).toInt64).toInt32).toInt8.toInt32))) := A
  have N := Fr.snoc X N g_b2
  have K := K.wr W (Or.inr sz_b2)
  have Zs := Nat.le_trans Zs (Keep.of_wr W).1
  refine own_aloadN X hx hby (.ref b2) at_56 rfl rfl 57 rfl ?_
  refine own_bipush X hx hby (6 : Int32) at_57 rfl 59 rfl ?_
  refine own_lloadN X hx hby q1 at_59 rfl 60 rfl ?_
  refine own_bipush X hx hby (48 : Int32) at_60 rfl 62 rfl ?_
  refine own_lushr X hx hby at_62 63 rfl ?_
  refine own_l2i X hx hby at_63 64 rfl ?_
  refine own_i2b X hx hby at_64 65 rfl ?_
  refine own_bastore X hx hby hZ eT A_b2 (by decide) at_65 66 rfl ?_
  intro T65 h65 X eT W A
  have E_b2 := E_b2.wr W
  have A_b2 : Afi Z h65 b2 .byte 8 (updI (updI (updI (updI (updI (updI (updI (fun _ => (0 : Int32)) 0 (nar .byte ((q1.toInt32).toInt8.toInt32))) 1 (nar .byte ((((q1.toUInt64 >>> ((8 : Int32) &&& 0x3f).toInt64.toUInt64).toInt64).toInt32).toInt8.toInt32))) 2 (nar .byte ((((q1.toUInt64 >>> ((16 : Int32) &&& 0x3f).toInt64.toUInt64).toInt64).toInt32).toInt8.toInt32))) 3 (nar .byte ((((q1.toUInt64 >>> ((24 : Int32) &&& 0x3f).toInt64.toUInt64).toInt64).toInt32).toInt8.toInt32))) 4 (nar .byte ((((q1.toUInt64 >>> ((32 : Int32) &&& 0x3f).toInt64.toUInt64).toInt64).toInt32).toInt8.toInt32))) 5 (nar .byte ((((q1.toUInt64 >>> ((40 : Int32) &&& 0x3f).toInt64.toUInt64).toInt64).toInt32).toInt8.toInt32))) 6 (nar .byte ((((q1.toUInt64 >>> ((48 : Int32) &&& 0x3f).toInt64.toUInt64).toInt64).toInt32).toInt8.toInt32))) := A
  have N := Fr.snoc X N g_b2
  have K := K.wr W (Or.inr sz_b2)
  have Zs := Nat.le_trans Zs (Keep.of_wr W).1
  refine own_aloadN X hx hby (.ref b2) at_66 rfl rfl 67 rfl ?_
  refine own_bipush X hx hby (7 : Int32) at_67 rfl 69 rfl ?_
  refine own_lloadN X hx hby q1 at_69 rfl 70 rfl ?_
  refine own_bipush X hx hby (56 : Int32) at_70 rfl 72 rfl ?_
  refine own_lushr X hx hby at_72 73 rfl ?_
  refine own_l2i X hx hby at_73 74 rfl ?_
  refine own_i2b X hx hby at_74 75 rfl ?_
  refine own_bastore X hx hby hZ eT A_b2 (by decide) at_75 76 rfl ?_
  intro T75 h75 X eT W A
  have E_b2 := E_b2.wr W
  have A_b2 : Afi Z h75 b2 .byte 8 (updI (updI (updI (updI (updI (updI (updI (updI (fun _ => (0 : Int32)) 0 (nar .byte ((q1.toInt32).toInt8.toInt32))) 1 (nar .byte ((((q1.toUInt64 >>> ((8 : Int32) &&& 0x3f).toInt64.toUInt64).toInt64).toInt32).toInt8.toInt32))) 2 (nar .byte ((((q1.toUInt64 >>> ((16 : Int32) &&& 0x3f).toInt64.toUInt64).toInt64).toInt32).toInt8.toInt32))) 3 (nar .byte ((((q1.toUInt64 >>> ((24 : Int32) &&& 0x3f).toInt64.toUInt64).toInt64).toInt32).toInt8.toInt32))) 4 (nar .byte ((((q1.toUInt64 >>> ((32 : Int32) &&& 0x3f).toInt64.toUInt64).toInt64).toInt32).toInt8.toInt32))) 5 (nar .byte ((((q1.toUInt64 >>> ((40 : Int32) &&& 0x3f).toInt64.toUInt64).toInt64).toInt32).toInt8.toInt32))) 6 (nar .byte ((((q1.toUInt64 >>> ((48 : Int32) &&& 0x3f).toInt64.toUInt64).toInt64).toInt32).toInt8.toInt32))) 7 (nar .byte ((((q1.toUInt64 >>> ((56 : Int32) &&& 0x3f).toInt64.toUInt64).toInt64).toInt32).toInt8.toInt32))) := A
  have N := Fr.snoc X N g_b2
  have K := K.wr W (Or.inr sz_b2)
  have Zs := Nat.le_trans Zs (Keep.of_wr W).1
  refine own_iloadN X hx hby p2 at_76 rfl 77 rfl ?_
  refine own_bipush X hx hby (15 : Int32) at_77 rfl 79 rfl ?_
  refine own_iand X hx hby at_79 80 rfl ?_
  refine own_bipush X hx hby (9 : Int32) at_80 rfl 82 rfl ?_
  refine own_irem X hx hby at_82 (by decide) 83 rfl ?_
  obtain ⟨v83, e83⟩ : ∃ z : Int32, ((p2 &&& (15 : Int32)) % (9 : Int32)) = z := ⟨_, rfl⟩
  refine own_istore X hx hby at_83 e83 (l' := #[.val (.long q1), .second, .val (.int p2), .val (.ref b2), .val (.int v83), .unset, .unset, .unset]) rfl 85 rfl ?_
  refine own_iloadN X hx hby p2 at_85 rfl 86 rfl ?_
  refine own_iconst X hx hby (4 : Int32) at_86 rfl 87 rfl ?_
  refine own_iushr X hx hby at_87 88 rfl ?_
  refine own_bipush X hx hby (15 : Int32) at_88 rfl 90 rfl ?_
  refine own_iand X hx hby at_90 91 rfl ?_
  refine own_bipush X hx hby (9 : Int32) at_91 rfl 93 rfl ?_
  refine own_iload X hx hby v83 at_93 rfl 95 rfl ?_
  refine own_isub X hx hby at_95 96 rfl ?_
  refine own_irem X hx hby at_96 (show ((9 : Int32) - v83) ≠ (0 : Int32) from own_nz (own_n _ _ e83)) 97 rfl ?_
  obtain ⟨v97, e97⟩ : ∃ z : Int32, ((((p2.toUInt32 >>> ((4 : Int32) &&& 31).toUInt32).toInt32) &&& (15 : Int32)) % ((9 : Int32) - v83)) = z := ⟨_, rfl⟩
  refine own_istore X hx hby at_97 e97 (l' := #[.val (.long q1), .second, .val (.int p2), .val (.ref b2), .val (.int v83), .val (.int v97), .unset, .unset]) rfl 99 rfl ?_
  refine own_ldc X hx hby hZ (-2128831035 : Int32) hown (hw _ (List.mem_of_getElem? (i := 1) rfl)) at_99 101 rfl ?_
  refine own_istore X hx hby at_101 rfl (l' := #[.val (.long q1), .second, .val (.int p2), .val (.ref b2), .val (.int v83), .val (.int v97), .val (.int (-2128831035 : Int32)), .unset]) rfl 103 rfl ?_
  refine own_iload X hx hby (-2128831035 : Int32) at_103 rfl 105 rfl ?_
  refine own_aloadN X hx hby (.ref b2) at_105 rfl rfl 106 rfl ?_
  refine own_iload X hx hby v97 at_106 rfl 108 rfl ?_
  refine own_iconst X hx hby (0 : Int32) at_108 rfl 109 rfl ?_
  refine own_iload X hx hby v83 at_109 rfl 111 rfl ?_
  refine own_callS X hx hby hZ (st := []) [(.int (-2128831035 : Int32)), (.ref b2), (.int v97), (.int (0 : Int32)), (.int v83)] rfl hown (hw _ (List.mem_of_getElem? (i := 2) rfl)) (hw _ (List.mem_of_getElem? (i := 3) rfl)) (hw _ (List.mem_of_getElem? (i := 4) rfl)) (hw _ (List.mem_of_getElem? (i := 5) rfl)) (by decide) at_111 (rm1 l Z a0 hw (-2128831035 : Int32) b2 v97 (0 : Int32) v83 (updI (updI (updI (updI (updI (updI (updI (updI (fun _ => (0 : Int32)) 0 (nar .byte ((q1.toInt32).toInt8.toInt32))) 1 (nar .byte ((((q1.toUInt64 >>> ((8 : Int32) &&& 0x3f).toInt64.toUInt64).toInt64).toInt32).toInt8.toInt32))) 2 (nar .byte ((((q1.toUInt64 >>> ((16 : Int32) &&& 0x3f).toInt64.toUInt64).toInt64).toInt32).toInt8.toInt32))) 3 (nar .byte ((((q1.toUInt64 >>> ((24 : Int32) &&& 0x3f).toInt64.toUInt64).toInt64).toInt32).toInt8.toInt32))) 4 (nar .byte ((((q1.toUInt64 >>> ((32 : Int32) &&& 0x3f).toInt64.toUInt64).toInt64).toInt32).toInt8.toInt32))) 5 (nar .byte ((((q1.toUInt64 >>> ((40 : Int32) &&& 0x3f).toInt64.toUInt64).toInt64).toInt32).toInt8.toInt32))) 6 (nar .byte ((((q1.toUInt64 >>> ((48 : Int32) &&& 0x3f).toInt64.toUInt64).toInt64).toInt32).toInt8.toInt32))) 7 (nar .byte ((((q1.toUInt64 >>> ((56 : Int32) &&& 0x3f).toInt64.toUInt64).toInt64).toInt32).toInt8.toInt32))) h75 n0 Zs (own_hin (own_o (own_n _ _ e83) e97) (by decide)) A_b2 E_b2) eT pd_1 rfl (by rw [hml]; rfl) (by decide) 0 rfl (by decide) (by decide) (by decide) 114 rfl ?_
  intro T111 L9 v9 X hQ
  obtain ⟨rfl, N9, eT⟩ := hQ
  have N := Fr.app N N9
  show Go p e below _ T111 (mkF m 114 #[.val (.long q1), .second, .val (.int p2), .val (.ref b2), .val (.int v83), .val (.int v97), .val (.int (-2128831035 : Int32)), .unset] [(.int (f1 (-2128831035 : Int32) v97 (0 : Int32) v83 (updI (updI (updI (updI (updI (updI (updI (updI (fun _ => (0 : Int32)) 0 (nar .byte ((q1.toInt32).toInt8.toInt32))) 1 (nar .byte ((((q1.toUInt64 >>> ((8 : Int32) &&& 0x3f).toInt64.toUInt64).toInt64).toInt32).toInt8.toInt32))) 2 (nar .byte ((((q1.toUInt64 >>> ((16 : Int32) &&& 0x3f).toInt64.toUInt64).toInt64).toInt32).toInt8.toInt32))) 3 (nar .byte ((((q1.toUInt64 >>> ((24 : Int32) &&& 0x3f).toInt64.toUInt64).toInt64).toInt32).toInt8.toInt32))) 4 (nar .byte ((((q1.toUInt64 >>> ((32 : Int32) &&& 0x3f).toInt64.toUInt64).toInt64).toInt32).toInt8.toInt32))) 5 (nar .byte ((((q1.toUInt64 >>> ((40 : Int32) &&& 0x3f).toInt64.toUInt64).toInt64).toInt32).toInt8.toInt32))) 6 (nar .byte ((((q1.toUInt64 >>> ((48 : Int32) &&& 0x3f).toInt64.toUInt64).toInt64).toInt32).toInt8.toInt32))) 7 (nar .byte ((((q1.toUInt64 >>> ((56 : Int32) &&& 0x3f).toInt64.toUInt64).toInt64).toInt32).toInt8.toInt32)))))])
  obtain ⟨v114, e114⟩ : ∃ z : Int32, (f1 (-2128831035 : Int32) v97 (0 : Int32) v83 (updI (updI (updI (updI (updI (updI (updI (updI (fun _ => (0 : Int32)) 0 (nar .byte ((q1.toInt32).toInt8.toInt32))) 1 (nar .byte ((((q1.toUInt64 >>> ((8 : Int32) &&& 0x3f).toInt64.toUInt64).toInt64).toInt32).toInt8.toInt32))) 2 (nar .byte ((((q1.toUInt64 >>> ((16 : Int32) &&& 0x3f).toInt64.toUInt64).toInt64).toInt32).toInt8.toInt32))) 3 (nar .byte ((((q1.toUInt64 >>> ((24 : Int32) &&& 0x3f).toInt64.toUInt64).toInt64).toInt32).toInt8.toInt32))) 4 (nar .byte ((((q1.toUInt64 >>> ((32 : Int32) &&& 0x3f).toInt64.toUInt64).toInt64).toInt32).toInt8.toInt32))) 5 (nar .byte ((((q1.toUInt64 >>> ((40 : Int32) &&& 0x3f).toInt64.toUInt64).toInt64).toInt32).toInt8.toInt32))) 6 (nar .byte ((((q1.toUInt64 >>> ((48 : Int32) &&& 0x3f).toInt64.toUInt64).toInt64).toInt32).toInt8.toInt32))) 7 (nar .byte ((((q1.toUInt64 >>> ((56 : Int32) &&& 0x3f).toInt64.toUInt64).toInt64).toInt32).toInt8.toInt32)))) = z := ⟨_, rfl⟩
  refine own_istore X hx hby at_114 e114 (l' := #[.val (.long q1), .second, .val (.int p2), .val (.ref b2), .val (.int v83), .val (.int v97), .val (.int v114), .unset]) rfl 116 rfl ?_
  refine own_iload X hx hby v114 at_116 rfl 118 rfl ?_
  refine own_aloadN X hx hby (.ref b2) at_118 rfl rfl 119 rfl ?_
  refine own_iload X hx hby v97 at_119 rfl 121 rfl ?_
  refine own_iconst X hx hby (1 : Int32) at_121 rfl 122 rfl ?_
  refine own_iload X hx hby v83 at_122 rfl 124 rfl ?_
  refine own_callS X hx hby hZ (st := []) [(.int v114), (.ref b2), (.int v97), (.int (1 : Int32)), (.int v83)] rfl hown (hw _ (List.mem_of_getElem? (i := 2) rfl)) (hw _ (List.mem_of_getElem? (i := 3) rfl)) (hw _ (List.mem_of_getElem? (i := 4) rfl)) (hw _ (List.mem_of_getElem? (i := 5) rfl)) (by decide) at_124 (rm1 l Z a0 hw v114 b2 v97 (1 : Int32) v83 (updI (updI (updI (updI (updI (updI (updI (updI (fun _ => (0 : Int32)) 0 (nar .byte ((q1.toInt32).toInt8.toInt32))) 1 (nar .byte ((((q1.toUInt64 >>> ((8 : Int32) &&& 0x3f).toInt64.toUInt64).toInt64).toInt32).toInt8.toInt32))) 2 (nar .byte ((((q1.toUInt64 >>> ((16 : Int32) &&& 0x3f).toInt64.toUInt64).toInt64).toInt32).toInt8.toInt32))) 3 (nar .byte ((((q1.toUInt64 >>> ((24 : Int32) &&& 0x3f).toInt64.toUInt64).toInt64).toInt32).toInt8.toInt32))) 4 (nar .byte ((((q1.toUInt64 >>> ((32 : Int32) &&& 0x3f).toInt64.toUInt64).toInt64).toInt32).toInt8.toInt32))) 5 (nar .byte ((((q1.toUInt64 >>> ((40 : Int32) &&& 0x3f).toInt64.toUInt64).toInt64).toInt32).toInt8.toInt32))) 6 (nar .byte ((((q1.toUInt64 >>> ((48 : Int32) &&& 0x3f).toInt64.toUInt64).toInt64).toInt32).toInt8.toInt32))) 7 (nar .byte ((((q1.toUInt64 >>> ((56 : Int32) &&& 0x3f).toInt64.toUInt64).toInt64).toInt32).toInt8.toInt32))) h75 n0 Zs (own_hin (own_o (own_n _ _ e83) e97) (by decide)) A_b2 E_b2) eT pd_1 rfl (by rw [hml]; rfl) (by decide) 0 rfl (by decide) (by decide) (by decide) 127 rfl ?_
  intro T124 L9 v9 X hQ
  obtain ⟨rfl, N9, eT⟩ := hQ
  have N := Fr.app N N9
  show Go p e below _ T124 (mkF m 127 #[.val (.long q1), .second, .val (.int p2), .val (.ref b2), .val (.int v83), .val (.int v97), .val (.int v114), .unset] [(.int (f1 v114 v97 (1 : Int32) v83 (updI (updI (updI (updI (updI (updI (updI (updI (fun _ => (0 : Int32)) 0 (nar .byte ((q1.toInt32).toInt8.toInt32))) 1 (nar .byte ((((q1.toUInt64 >>> ((8 : Int32) &&& 0x3f).toInt64.toUInt64).toInt64).toInt32).toInt8.toInt32))) 2 (nar .byte ((((q1.toUInt64 >>> ((16 : Int32) &&& 0x3f).toInt64.toUInt64).toInt64).toInt32).toInt8.toInt32))) 3 (nar .byte ((((q1.toUInt64 >>> ((24 : Int32) &&& 0x3f).toInt64.toUInt64).toInt64).toInt32).toInt8.toInt32))) 4 (nar .byte ((((q1.toUInt64 >>> ((32 : Int32) &&& 0x3f).toInt64.toUInt64).toInt64).toInt32).toInt8.toInt32))) 5 (nar .byte ((((q1.toUInt64 >>> ((40 : Int32) &&& 0x3f).toInt64.toUInt64).toInt64).toInt32).toInt8.toInt32))) 6 (nar .byte ((((q1.toUInt64 >>> ((48 : Int32) &&& 0x3f).toInt64.toUInt64).toInt64).toInt32).toInt8.toInt32))) 7 (nar .byte ((((q1.toUInt64 >>> ((56 : Int32) &&& 0x3f).toInt64.toUInt64).toInt64).toInt32).toInt8.toInt32)))))])
  obtain ⟨v127, e127⟩ : ∃ z : Int32, (f1 v114 v97 (1 : Int32) v83 (updI (updI (updI (updI (updI (updI (updI (updI (fun _ => (0 : Int32)) 0 (nar .byte ((q1.toInt32).toInt8.toInt32))) 1 (nar .byte ((((q1.toUInt64 >>> ((8 : Int32) &&& 0x3f).toInt64.toUInt64).toInt64).toInt32).toInt8.toInt32))) 2 (nar .byte ((((q1.toUInt64 >>> ((16 : Int32) &&& 0x3f).toInt64.toUInt64).toInt64).toInt32).toInt8.toInt32))) 3 (nar .byte ((((q1.toUInt64 >>> ((24 : Int32) &&& 0x3f).toInt64.toUInt64).toInt64).toInt32).toInt8.toInt32))) 4 (nar .byte ((((q1.toUInt64 >>> ((32 : Int32) &&& 0x3f).toInt64.toUInt64).toInt64).toInt32).toInt8.toInt32))) 5 (nar .byte ((((q1.toUInt64 >>> ((40 : Int32) &&& 0x3f).toInt64.toUInt64).toInt64).toInt32).toInt8.toInt32))) 6 (nar .byte ((((q1.toUInt64 >>> ((48 : Int32) &&& 0x3f).toInt64.toUInt64).toInt64).toInt32).toInt8.toInt32))) 7 (nar .byte ((((q1.toUInt64 >>> ((56 : Int32) &&& 0x3f).toInt64.toUInt64).toInt64).toInt32).toInt8.toInt32)))) = z := ⟨_, rfl⟩
  refine own_istore X hx hby at_127 e127 (l' := #[.val (.long q1), .second, .val (.int p2), .val (.ref b2), .val (.int v83), .val (.int v97), .val (.int v127), .unset]) rfl 129 rfl ?_
  refine own_iload X hx hby v127 at_129 rfl 131 rfl ?_
  refine own_aloadN X hx hby (.ref b2) at_131 rfl rfl 132 rfl ?_
  refine own_iload X hx hby v97 at_132 rfl 134 rfl ?_
  refine own_iconst X hx hby (2 : Int32) at_134 rfl 135 rfl ?_
  refine own_iload X hx hby v83 at_135 rfl 137 rfl ?_
  refine own_callS X hx hby hZ (st := []) [(.int v127), (.ref b2), (.int v97), (.int (2 : Int32)), (.int v83)] rfl hown (hw _ (List.mem_of_getElem? (i := 2) rfl)) (hw _ (List.mem_of_getElem? (i := 3) rfl)) (hw _ (List.mem_of_getElem? (i := 4) rfl)) (hw _ (List.mem_of_getElem? (i := 5) rfl)) (by decide) at_137 (rm1 l Z a0 hw v127 b2 v97 (2 : Int32) v83 (updI (updI (updI (updI (updI (updI (updI (updI (fun _ => (0 : Int32)) 0 (nar .byte ((q1.toInt32).toInt8.toInt32))) 1 (nar .byte ((((q1.toUInt64 >>> ((8 : Int32) &&& 0x3f).toInt64.toUInt64).toInt64).toInt32).toInt8.toInt32))) 2 (nar .byte ((((q1.toUInt64 >>> ((16 : Int32) &&& 0x3f).toInt64.toUInt64).toInt64).toInt32).toInt8.toInt32))) 3 (nar .byte ((((q1.toUInt64 >>> ((24 : Int32) &&& 0x3f).toInt64.toUInt64).toInt64).toInt32).toInt8.toInt32))) 4 (nar .byte ((((q1.toUInt64 >>> ((32 : Int32) &&& 0x3f).toInt64.toUInt64).toInt64).toInt32).toInt8.toInt32))) 5 (nar .byte ((((q1.toUInt64 >>> ((40 : Int32) &&& 0x3f).toInt64.toUInt64).toInt64).toInt32).toInt8.toInt32))) 6 (nar .byte ((((q1.toUInt64 >>> ((48 : Int32) &&& 0x3f).toInt64.toUInt64).toInt64).toInt32).toInt8.toInt32))) 7 (nar .byte ((((q1.toUInt64 >>> ((56 : Int32) &&& 0x3f).toInt64.toUInt64).toInt64).toInt32).toInt8.toInt32))) h75 n0 Zs (own_hin (own_o (own_n _ _ e83) e97) (by decide)) A_b2 E_b2) eT pd_1 rfl (by rw [hml]; rfl) (by decide) 0 rfl (by decide) (by decide) (by decide) 140 rfl ?_
  intro T137 L9 v9 X hQ
  obtain ⟨rfl, N9, eT⟩ := hQ
  have N := Fr.app N N9
  show Go p e below _ T137 (mkF m 140 #[.val (.long q1), .second, .val (.int p2), .val (.ref b2), .val (.int v83), .val (.int v97), .val (.int v127), .unset] [(.int (f1 v127 v97 (2 : Int32) v83 (updI (updI (updI (updI (updI (updI (updI (updI (fun _ => (0 : Int32)) 0 (nar .byte ((q1.toInt32).toInt8.toInt32))) 1 (nar .byte ((((q1.toUInt64 >>> ((8 : Int32) &&& 0x3f).toInt64.toUInt64).toInt64).toInt32).toInt8.toInt32))) 2 (nar .byte ((((q1.toUInt64 >>> ((16 : Int32) &&& 0x3f).toInt64.toUInt64).toInt64).toInt32).toInt8.toInt32))) 3 (nar .byte ((((q1.toUInt64 >>> ((24 : Int32) &&& 0x3f).toInt64.toUInt64).toInt64).toInt32).toInt8.toInt32))) 4 (nar .byte ((((q1.toUInt64 >>> ((32 : Int32) &&& 0x3f).toInt64.toUInt64).toInt64).toInt32).toInt8.toInt32))) 5 (nar .byte ((((q1.toUInt64 >>> ((40 : Int32) &&& 0x3f).toInt64.toUInt64).toInt64).toInt32).toInt8.toInt32))) 6 (nar .byte ((((q1.toUInt64 >>> ((48 : Int32) &&& 0x3f).toInt64.toUInt64).toInt64).toInt32).toInt8.toInt32))) 7 (nar .byte ((((q1.toUInt64 >>> ((56 : Int32) &&& 0x3f).toInt64.toUInt64).toInt64).toInt32).toInt8.toInt32)))))])
  obtain ⟨v140, e140⟩ : ∃ z : Int32, (f1 v127 v97 (2 : Int32) v83 (updI (updI (updI (updI (updI (updI (updI (updI (fun _ => (0 : Int32)) 0 (nar .byte ((q1.toInt32).toInt8.toInt32))) 1 (nar .byte ((((q1.toUInt64 >>> ((8 : Int32) &&& 0x3f).toInt64.toUInt64).toInt64).toInt32).toInt8.toInt32))) 2 (nar .byte ((((q1.toUInt64 >>> ((16 : Int32) &&& 0x3f).toInt64.toUInt64).toInt64).toInt32).toInt8.toInt32))) 3 (nar .byte ((((q1.toUInt64 >>> ((24 : Int32) &&& 0x3f).toInt64.toUInt64).toInt64).toInt32).toInt8.toInt32))) 4 (nar .byte ((((q1.toUInt64 >>> ((32 : Int32) &&& 0x3f).toInt64.toUInt64).toInt64).toInt32).toInt8.toInt32))) 5 (nar .byte ((((q1.toUInt64 >>> ((40 : Int32) &&& 0x3f).toInt64.toUInt64).toInt64).toInt32).toInt8.toInt32))) 6 (nar .byte ((((q1.toUInt64 >>> ((48 : Int32) &&& 0x3f).toInt64.toUInt64).toInt64).toInt32).toInt8.toInt32))) 7 (nar .byte ((((q1.toUInt64 >>> ((56 : Int32) &&& 0x3f).toInt64.toUInt64).toInt64).toInt32).toInt8.toInt32)))) = z := ⟨_, rfl⟩
  refine own_istore X hx hby at_140 e140 (l' := #[.val (.long q1), .second, .val (.int p2), .val (.ref b2), .val (.int v83), .val (.int v97), .val (.int v140), .unset]) rfl 142 rfl ?_
  refine own_iload X hx hby v140 at_142 rfl 144 rfl ?_
  refine own_aloadN X hx hby (.ref b2) at_144 rfl rfl 145 rfl ?_
  refine own_iload X hx hby v97 at_145 rfl 147 rfl ?_
  refine own_iconst X hx hby (3 : Int32) at_147 rfl 148 rfl ?_
  refine own_iload X hx hby v83 at_148 rfl 150 rfl ?_
  refine own_callS X hx hby hZ (st := []) [(.int v140), (.ref b2), (.int v97), (.int (3 : Int32)), (.int v83)] rfl hown (hw _ (List.mem_of_getElem? (i := 2) rfl)) (hw _ (List.mem_of_getElem? (i := 3) rfl)) (hw _ (List.mem_of_getElem? (i := 4) rfl)) (hw _ (List.mem_of_getElem? (i := 5) rfl)) (by decide) at_150 (rm1 l Z a0 hw v140 b2 v97 (3 : Int32) v83 (updI (updI (updI (updI (updI (updI (updI (updI (fun _ => (0 : Int32)) 0 (nar .byte ((q1.toInt32).toInt8.toInt32))) 1 (nar .byte ((((q1.toUInt64 >>> ((8 : Int32) &&& 0x3f).toInt64.toUInt64).toInt64).toInt32).toInt8.toInt32))) 2 (nar .byte ((((q1.toUInt64 >>> ((16 : Int32) &&& 0x3f).toInt64.toUInt64).toInt64).toInt32).toInt8.toInt32))) 3 (nar .byte ((((q1.toUInt64 >>> ((24 : Int32) &&& 0x3f).toInt64.toUInt64).toInt64).toInt32).toInt8.toInt32))) 4 (nar .byte ((((q1.toUInt64 >>> ((32 : Int32) &&& 0x3f).toInt64.toUInt64).toInt64).toInt32).toInt8.toInt32))) 5 (nar .byte ((((q1.toUInt64 >>> ((40 : Int32) &&& 0x3f).toInt64.toUInt64).toInt64).toInt32).toInt8.toInt32))) 6 (nar .byte ((((q1.toUInt64 >>> ((48 : Int32) &&& 0x3f).toInt64.toUInt64).toInt64).toInt32).toInt8.toInt32))) 7 (nar .byte ((((q1.toUInt64 >>> ((56 : Int32) &&& 0x3f).toInt64.toUInt64).toInt64).toInt32).toInt8.toInt32))) h75 n0 Zs (own_hin (own_o (own_n _ _ e83) e97) (by decide)) A_b2 E_b2) eT pd_1 rfl (by rw [hml]; rfl) (by decide) 0 rfl (by decide) (by decide) (by decide) 153 rfl ?_
  intro T150 L9 v9 X hQ
  obtain ⟨rfl, N9, eT⟩ := hQ
  have N := Fr.app N N9
  show Go p e below _ T150 (mkF m 153 #[.val (.long q1), .second, .val (.int p2), .val (.ref b2), .val (.int v83), .val (.int v97), .val (.int v140), .unset] [(.int (f1 v140 v97 (3 : Int32) v83 (updI (updI (updI (updI (updI (updI (updI (updI (fun _ => (0 : Int32)) 0 (nar .byte ((q1.toInt32).toInt8.toInt32))) 1 (nar .byte ((((q1.toUInt64 >>> ((8 : Int32) &&& 0x3f).toInt64.toUInt64).toInt64).toInt32).toInt8.toInt32))) 2 (nar .byte ((((q1.toUInt64 >>> ((16 : Int32) &&& 0x3f).toInt64.toUInt64).toInt64).toInt32).toInt8.toInt32))) 3 (nar .byte ((((q1.toUInt64 >>> ((24 : Int32) &&& 0x3f).toInt64.toUInt64).toInt64).toInt32).toInt8.toInt32))) 4 (nar .byte ((((q1.toUInt64 >>> ((32 : Int32) &&& 0x3f).toInt64.toUInt64).toInt64).toInt32).toInt8.toInt32))) 5 (nar .byte ((((q1.toUInt64 >>> ((40 : Int32) &&& 0x3f).toInt64.toUInt64).toInt64).toInt32).toInt8.toInt32))) 6 (nar .byte ((((q1.toUInt64 >>> ((48 : Int32) &&& 0x3f).toInt64.toUInt64).toInt64).toInt32).toInt8.toInt32))) 7 (nar .byte ((((q1.toUInt64 >>> ((56 : Int32) &&& 0x3f).toInt64.toUInt64).toInt64).toInt32).toInt8.toInt32)))))])
  obtain ⟨v153, e153⟩ : ∃ z : Int32, (f1 v140 v97 (3 : Int32) v83 (updI (updI (updI (updI (updI (updI (updI (updI (fun _ => (0 : Int32)) 0 (nar .byte ((q1.toInt32).toInt8.toInt32))) 1 (nar .byte ((((q1.toUInt64 >>> ((8 : Int32) &&& 0x3f).toInt64.toUInt64).toInt64).toInt32).toInt8.toInt32))) 2 (nar .byte ((((q1.toUInt64 >>> ((16 : Int32) &&& 0x3f).toInt64.toUInt64).toInt64).toInt32).toInt8.toInt32))) 3 (nar .byte ((((q1.toUInt64 >>> ((24 : Int32) &&& 0x3f).toInt64.toUInt64).toInt64).toInt32).toInt8.toInt32))) 4 (nar .byte ((((q1.toUInt64 >>> ((32 : Int32) &&& 0x3f).toInt64.toUInt64).toInt64).toInt32).toInt8.toInt32))) 5 (nar .byte ((((q1.toUInt64 >>> ((40 : Int32) &&& 0x3f).toInt64.toUInt64).toInt64).toInt32).toInt8.toInt32))) 6 (nar .byte ((((q1.toUInt64 >>> ((48 : Int32) &&& 0x3f).toInt64.toUInt64).toInt64).toInt32).toInt8.toInt32))) 7 (nar .byte ((((q1.toUInt64 >>> ((56 : Int32) &&& 0x3f).toInt64.toUInt64).toInt64).toInt32).toInt8.toInt32)))) = z := ⟨_, rfl⟩
  refine own_istore X hx hby at_153 e153 (l' := #[.val (.long q1), .second, .val (.int p2), .val (.ref b2), .val (.int v83), .val (.int v97), .val (.int v153), .unset]) rfl 155 rfl ?_
  refine own_iload X hx hby v153 at_155 rfl 157 rfl ?_
  refine own_aloadN X hx hby (.ref b2) at_157 rfl rfl 158 rfl ?_
  refine own_iload X hx hby v97 at_158 rfl 160 rfl ?_
  refine own_iconst X hx hby (4 : Int32) at_160 rfl 161 rfl ?_
  refine own_iload X hx hby v83 at_161 rfl 163 rfl ?_
  refine own_callS X hx hby hZ (st := []) [(.int v153), (.ref b2), (.int v97), (.int (4 : Int32)), (.int v83)] rfl hown (hw _ (List.mem_of_getElem? (i := 2) rfl)) (hw _ (List.mem_of_getElem? (i := 3) rfl)) (hw _ (List.mem_of_getElem? (i := 4) rfl)) (hw _ (List.mem_of_getElem? (i := 5) rfl)) (by decide) at_163 (rm1 l Z a0 hw v153 b2 v97 (4 : Int32) v83 (updI (updI (updI (updI (updI (updI (updI (updI (fun _ => (0 : Int32)) 0 (nar .byte ((q1.toInt32).toInt8.toInt32))) 1 (nar .byte ((((q1.toUInt64 >>> ((8 : Int32) &&& 0x3f).toInt64.toUInt64).toInt64).toInt32).toInt8.toInt32))) 2 (nar .byte ((((q1.toUInt64 >>> ((16 : Int32) &&& 0x3f).toInt64.toUInt64).toInt64).toInt32).toInt8.toInt32))) 3 (nar .byte ((((q1.toUInt64 >>> ((24 : Int32) &&& 0x3f).toInt64.toUInt64).toInt64).toInt32).toInt8.toInt32))) 4 (nar .byte ((((q1.toUInt64 >>> ((32 : Int32) &&& 0x3f).toInt64.toUInt64).toInt64).toInt32).toInt8.toInt32))) 5 (nar .byte ((((q1.toUInt64 >>> ((40 : Int32) &&& 0x3f).toInt64.toUInt64).toInt64).toInt32).toInt8.toInt32))) 6 (nar .byte ((((q1.toUInt64 >>> ((48 : Int32) &&& 0x3f).toInt64.toUInt64).toInt64).toInt32).toInt8.toInt32))) 7 (nar .byte ((((q1.toUInt64 >>> ((56 : Int32) &&& 0x3f).toInt64.toUInt64).toInt64).toInt32).toInt8.toInt32))) h75 n0 Zs (own_hin (own_o (own_n _ _ e83) e97) (by decide)) A_b2 E_b2) eT pd_1 rfl (by rw [hml]; rfl) (by decide) 0 rfl (by decide) (by decide) (by decide) 166 rfl ?_
  intro T163 L9 v9 X hQ
  obtain ⟨rfl, N9, eT⟩ := hQ
  have N := Fr.app N N9
  show Go p e below _ T163 (mkF m 166 #[.val (.long q1), .second, .val (.int p2), .val (.ref b2), .val (.int v83), .val (.int v97), .val (.int v153), .unset] [(.int (f1 v153 v97 (4 : Int32) v83 (updI (updI (updI (updI (updI (updI (updI (updI (fun _ => (0 : Int32)) 0 (nar .byte ((q1.toInt32).toInt8.toInt32))) 1 (nar .byte ((((q1.toUInt64 >>> ((8 : Int32) &&& 0x3f).toInt64.toUInt64).toInt64).toInt32).toInt8.toInt32))) 2 (nar .byte ((((q1.toUInt64 >>> ((16 : Int32) &&& 0x3f).toInt64.toUInt64).toInt64).toInt32).toInt8.toInt32))) 3 (nar .byte ((((q1.toUInt64 >>> ((24 : Int32) &&& 0x3f).toInt64.toUInt64).toInt64).toInt32).toInt8.toInt32))) 4 (nar .byte ((((q1.toUInt64 >>> ((32 : Int32) &&& 0x3f).toInt64.toUInt64).toInt64).toInt32).toInt8.toInt32))) 5 (nar .byte ((((q1.toUInt64 >>> ((40 : Int32) &&& 0x3f).toInt64.toUInt64).toInt64).toInt32).toInt8.toInt32))) 6 (nar .byte ((((q1.toUInt64 >>> ((48 : Int32) &&& 0x3f).toInt64.toUInt64).toInt64).toInt32).toInt8.toInt32))) 7 (nar .byte ((((q1.toUInt64 >>> ((56 : Int32) &&& 0x3f).toInt64.toUInt64).toInt64).toInt32).toInt8.toInt32)))))])
  obtain ⟨v166, e166⟩ : ∃ z : Int32, (f1 v153 v97 (4 : Int32) v83 (updI (updI (updI (updI (updI (updI (updI (updI (fun _ => (0 : Int32)) 0 (nar .byte ((q1.toInt32).toInt8.toInt32))) 1 (nar .byte ((((q1.toUInt64 >>> ((8 : Int32) &&& 0x3f).toInt64.toUInt64).toInt64).toInt32).toInt8.toInt32))) 2 (nar .byte ((((q1.toUInt64 >>> ((16 : Int32) &&& 0x3f).toInt64.toUInt64).toInt64).toInt32).toInt8.toInt32))) 3 (nar .byte ((((q1.toUInt64 >>> ((24 : Int32) &&& 0x3f).toInt64.toUInt64).toInt64).toInt32).toInt8.toInt32))) 4 (nar .byte ((((q1.toUInt64 >>> ((32 : Int32) &&& 0x3f).toInt64.toUInt64).toInt64).toInt32).toInt8.toInt32))) 5 (nar .byte ((((q1.toUInt64 >>> ((40 : Int32) &&& 0x3f).toInt64.toUInt64).toInt64).toInt32).toInt8.toInt32))) 6 (nar .byte ((((q1.toUInt64 >>> ((48 : Int32) &&& 0x3f).toInt64.toUInt64).toInt64).toInt32).toInt8.toInt32))) 7 (nar .byte ((((q1.toUInt64 >>> ((56 : Int32) &&& 0x3f).toInt64.toUInt64).toInt64).toInt32).toInt8.toInt32)))) = z := ⟨_, rfl⟩
  refine own_istore X hx hby at_166 e166 (l' := #[.val (.long q1), .second, .val (.int p2), .val (.ref b2), .val (.int v83), .val (.int v97), .val (.int v166), .unset]) rfl 168 rfl ?_
  refine own_iload X hx hby v166 at_168 rfl 170 rfl ?_
  refine own_aloadN X hx hby (.ref b2) at_170 rfl rfl 171 rfl ?_
  refine own_iload X hx hby v97 at_171 rfl 173 rfl ?_
  refine own_iconst X hx hby (5 : Int32) at_173 rfl 174 rfl ?_
  refine own_iload X hx hby v83 at_174 rfl 176 rfl ?_
  refine own_callS X hx hby hZ (st := []) [(.int v166), (.ref b2), (.int v97), (.int (5 : Int32)), (.int v83)] rfl hown (hw _ (List.mem_of_getElem? (i := 2) rfl)) (hw _ (List.mem_of_getElem? (i := 3) rfl)) (hw _ (List.mem_of_getElem? (i := 4) rfl)) (hw _ (List.mem_of_getElem? (i := 5) rfl)) (by decide) at_176 (rm1 l Z a0 hw v166 b2 v97 (5 : Int32) v83 (updI (updI (updI (updI (updI (updI (updI (updI (fun _ => (0 : Int32)) 0 (nar .byte ((q1.toInt32).toInt8.toInt32))) 1 (nar .byte ((((q1.toUInt64 >>> ((8 : Int32) &&& 0x3f).toInt64.toUInt64).toInt64).toInt32).toInt8.toInt32))) 2 (nar .byte ((((q1.toUInt64 >>> ((16 : Int32) &&& 0x3f).toInt64.toUInt64).toInt64).toInt32).toInt8.toInt32))) 3 (nar .byte ((((q1.toUInt64 >>> ((24 : Int32) &&& 0x3f).toInt64.toUInt64).toInt64).toInt32).toInt8.toInt32))) 4 (nar .byte ((((q1.toUInt64 >>> ((32 : Int32) &&& 0x3f).toInt64.toUInt64).toInt64).toInt32).toInt8.toInt32))) 5 (nar .byte ((((q1.toUInt64 >>> ((40 : Int32) &&& 0x3f).toInt64.toUInt64).toInt64).toInt32).toInt8.toInt32))) 6 (nar .byte ((((q1.toUInt64 >>> ((48 : Int32) &&& 0x3f).toInt64.toUInt64).toInt64).toInt32).toInt8.toInt32))) 7 (nar .byte ((((q1.toUInt64 >>> ((56 : Int32) &&& 0x3f).toInt64.toUInt64).toInt64).toInt32).toInt8.toInt32))) h75 n0 Zs (own_hin (own_o (own_n _ _ e83) e97) (by decide)) A_b2 E_b2) eT pd_1 rfl (by rw [hml]; rfl) (by decide) 0 rfl (by decide) (by decide) (by decide) 179 rfl ?_
  intro T176 L9 v9 X hQ
  obtain ⟨rfl, N9, eT⟩ := hQ
  have N := Fr.app N N9
  show Go p e below _ T176 (mkF m 179 #[.val (.long q1), .second, .val (.int p2), .val (.ref b2), .val (.int v83), .val (.int v97), .val (.int v166), .unset] [(.int (f1 v166 v97 (5 : Int32) v83 (updI (updI (updI (updI (updI (updI (updI (updI (fun _ => (0 : Int32)) 0 (nar .byte ((q1.toInt32).toInt8.toInt32))) 1 (nar .byte ((((q1.toUInt64 >>> ((8 : Int32) &&& 0x3f).toInt64.toUInt64).toInt64).toInt32).toInt8.toInt32))) 2 (nar .byte ((((q1.toUInt64 >>> ((16 : Int32) &&& 0x3f).toInt64.toUInt64).toInt64).toInt32).toInt8.toInt32))) 3 (nar .byte ((((q1.toUInt64 >>> ((24 : Int32) &&& 0x3f).toInt64.toUInt64).toInt64).toInt32).toInt8.toInt32))) 4 (nar .byte ((((q1.toUInt64 >>> ((32 : Int32) &&& 0x3f).toInt64.toUInt64).toInt64).toInt32).toInt8.toInt32))) 5 (nar .byte ((((q1.toUInt64 >>> ((40 : Int32) &&& 0x3f).toInt64.toUInt64).toInt64).toInt32).toInt8.toInt32))) 6 (nar .byte ((((q1.toUInt64 >>> ((48 : Int32) &&& 0x3f).toInt64.toUInt64).toInt64).toInt32).toInt8.toInt32))) 7 (nar .byte ((((q1.toUInt64 >>> ((56 : Int32) &&& 0x3f).toInt64.toUInt64).toInt64).toInt32).toInt8.toInt32)))))])
  obtain ⟨v179, e179⟩ : ∃ z : Int32, (f1 v166 v97 (5 : Int32) v83 (updI (updI (updI (updI (updI (updI (updI (updI (fun _ => (0 : Int32)) 0 (nar .byte ((q1.toInt32).toInt8.toInt32))) 1 (nar .byte ((((q1.toUInt64 >>> ((8 : Int32) &&& 0x3f).toInt64.toUInt64).toInt64).toInt32).toInt8.toInt32))) 2 (nar .byte ((((q1.toUInt64 >>> ((16 : Int32) &&& 0x3f).toInt64.toUInt64).toInt64).toInt32).toInt8.toInt32))) 3 (nar .byte ((((q1.toUInt64 >>> ((24 : Int32) &&& 0x3f).toInt64.toUInt64).toInt64).toInt32).toInt8.toInt32))) 4 (nar .byte ((((q1.toUInt64 >>> ((32 : Int32) &&& 0x3f).toInt64.toUInt64).toInt64).toInt32).toInt8.toInt32))) 5 (nar .byte ((((q1.toUInt64 >>> ((40 : Int32) &&& 0x3f).toInt64.toUInt64).toInt64).toInt32).toInt8.toInt32))) 6 (nar .byte ((((q1.toUInt64 >>> ((48 : Int32) &&& 0x3f).toInt64.toUInt64).toInt64).toInt32).toInt8.toInt32))) 7 (nar .byte ((((q1.toUInt64 >>> ((56 : Int32) &&& 0x3f).toInt64.toUInt64).toInt64).toInt32).toInt8.toInt32)))) = z := ⟨_, rfl⟩
  refine own_istore X hx hby at_179 e179 (l' := #[.val (.long q1), .second, .val (.int p2), .val (.ref b2), .val (.int v83), .val (.int v97), .val (.int v179), .unset]) rfl 181 rfl ?_
  refine own_iload X hx hby v179 at_181 rfl 183 rfl ?_
  refine own_aloadN X hx hby (.ref b2) at_183 rfl rfl 184 rfl ?_
  refine own_iload X hx hby v97 at_184 rfl 186 rfl ?_
  refine own_bipush X hx hby (6 : Int32) at_186 rfl 188 rfl ?_
  refine own_iload X hx hby v83 at_188 rfl 190 rfl ?_
  refine own_callS X hx hby hZ (st := []) [(.int v179), (.ref b2), (.int v97), (.int (6 : Int32)), (.int v83)] rfl hown (hw _ (List.mem_of_getElem? (i := 2) rfl)) (hw _ (List.mem_of_getElem? (i := 3) rfl)) (hw _ (List.mem_of_getElem? (i := 4) rfl)) (hw _ (List.mem_of_getElem? (i := 5) rfl)) (by decide) at_190 (rm1 l Z a0 hw v179 b2 v97 (6 : Int32) v83 (updI (updI (updI (updI (updI (updI (updI (updI (fun _ => (0 : Int32)) 0 (nar .byte ((q1.toInt32).toInt8.toInt32))) 1 (nar .byte ((((q1.toUInt64 >>> ((8 : Int32) &&& 0x3f).toInt64.toUInt64).toInt64).toInt32).toInt8.toInt32))) 2 (nar .byte ((((q1.toUInt64 >>> ((16 : Int32) &&& 0x3f).toInt64.toUInt64).toInt64).toInt32).toInt8.toInt32))) 3 (nar .byte ((((q1.toUInt64 >>> ((24 : Int32) &&& 0x3f).toInt64.toUInt64).toInt64).toInt32).toInt8.toInt32))) 4 (nar .byte ((((q1.toUInt64 >>> ((32 : Int32) &&& 0x3f).toInt64.toUInt64).toInt64).toInt32).toInt8.toInt32))) 5 (nar .byte ((((q1.toUInt64 >>> ((40 : Int32) &&& 0x3f).toInt64.toUInt64).toInt64).toInt32).toInt8.toInt32))) 6 (nar .byte ((((q1.toUInt64 >>> ((48 : Int32) &&& 0x3f).toInt64.toUInt64).toInt64).toInt32).toInt8.toInt32))) 7 (nar .byte ((((q1.toUInt64 >>> ((56 : Int32) &&& 0x3f).toInt64.toUInt64).toInt64).toInt32).toInt8.toInt32))) h75 n0 Zs (own_hin (own_o (own_n _ _ e83) e97) (by decide)) A_b2 E_b2) eT pd_1 rfl (by rw [hml]; rfl) (by decide) 0 rfl (by decide) (by decide) (by decide) 193 rfl ?_
  intro T190 L9 v9 X hQ
  obtain ⟨rfl, N9, eT⟩ := hQ
  have N := Fr.app N N9
  show Go p e below _ T190 (mkF m 193 #[.val (.long q1), .second, .val (.int p2), .val (.ref b2), .val (.int v83), .val (.int v97), .val (.int v179), .unset] [(.int (f1 v179 v97 (6 : Int32) v83 (updI (updI (updI (updI (updI (updI (updI (updI (fun _ => (0 : Int32)) 0 (nar .byte ((q1.toInt32).toInt8.toInt32))) 1 (nar .byte ((((q1.toUInt64 >>> ((8 : Int32) &&& 0x3f).toInt64.toUInt64).toInt64).toInt32).toInt8.toInt32))) 2 (nar .byte ((((q1.toUInt64 >>> ((16 : Int32) &&& 0x3f).toInt64.toUInt64).toInt64).toInt32).toInt8.toInt32))) 3 (nar .byte ((((q1.toUInt64 >>> ((24 : Int32) &&& 0x3f).toInt64.toUInt64).toInt64).toInt32).toInt8.toInt32))) 4 (nar .byte ((((q1.toUInt64 >>> ((32 : Int32) &&& 0x3f).toInt64.toUInt64).toInt64).toInt32).toInt8.toInt32))) 5 (nar .byte ((((q1.toUInt64 >>> ((40 : Int32) &&& 0x3f).toInt64.toUInt64).toInt64).toInt32).toInt8.toInt32))) 6 (nar .byte ((((q1.toUInt64 >>> ((48 : Int32) &&& 0x3f).toInt64.toUInt64).toInt64).toInt32).toInt8.toInt32))) 7 (nar .byte ((((q1.toUInt64 >>> ((56 : Int32) &&& 0x3f).toInt64.toUInt64).toInt64).toInt32).toInt8.toInt32)))))])
  obtain ⟨v193, e193⟩ : ∃ z : Int32, (f1 v179 v97 (6 : Int32) v83 (updI (updI (updI (updI (updI (updI (updI (updI (fun _ => (0 : Int32)) 0 (nar .byte ((q1.toInt32).toInt8.toInt32))) 1 (nar .byte ((((q1.toUInt64 >>> ((8 : Int32) &&& 0x3f).toInt64.toUInt64).toInt64).toInt32).toInt8.toInt32))) 2 (nar .byte ((((q1.toUInt64 >>> ((16 : Int32) &&& 0x3f).toInt64.toUInt64).toInt64).toInt32).toInt8.toInt32))) 3 (nar .byte ((((q1.toUInt64 >>> ((24 : Int32) &&& 0x3f).toInt64.toUInt64).toInt64).toInt32).toInt8.toInt32))) 4 (nar .byte ((((q1.toUInt64 >>> ((32 : Int32) &&& 0x3f).toInt64.toUInt64).toInt64).toInt32).toInt8.toInt32))) 5 (nar .byte ((((q1.toUInt64 >>> ((40 : Int32) &&& 0x3f).toInt64.toUInt64).toInt64).toInt32).toInt8.toInt32))) 6 (nar .byte ((((q1.toUInt64 >>> ((48 : Int32) &&& 0x3f).toInt64.toUInt64).toInt64).toInt32).toInt8.toInt32))) 7 (nar .byte ((((q1.toUInt64 >>> ((56 : Int32) &&& 0x3f).toInt64.toUInt64).toInt64).toInt32).toInt8.toInt32)))) = z := ⟨_, rfl⟩
  refine own_istore X hx hby at_193 e193 (l' := #[.val (.long q1), .second, .val (.int p2), .val (.ref b2), .val (.int v83), .val (.int v97), .val (.int v193), .unset]) rfl 195 rfl ?_
  refine own_iload X hx hby v193 at_195 rfl 197 rfl ?_
  refine own_aloadN X hx hby (.ref b2) at_197 rfl rfl 198 rfl ?_
  refine own_iload X hx hby v97 at_198 rfl 200 rfl ?_
  refine own_bipush X hx hby (7 : Int32) at_200 rfl 202 rfl ?_
  refine own_iload X hx hby v83 at_202 rfl 204 rfl ?_
  refine own_callS X hx hby hZ (st := []) [(.int v193), (.ref b2), (.int v97), (.int (7 : Int32)), (.int v83)] rfl hown (hw _ (List.mem_of_getElem? (i := 2) rfl)) (hw _ (List.mem_of_getElem? (i := 3) rfl)) (hw _ (List.mem_of_getElem? (i := 4) rfl)) (hw _ (List.mem_of_getElem? (i := 5) rfl)) (by decide) at_204 (rm1 l Z a0 hw v193 b2 v97 (7 : Int32) v83 (updI (updI (updI (updI (updI (updI (updI (updI (fun _ => (0 : Int32)) 0 (nar .byte ((q1.toInt32).toInt8.toInt32))) 1 (nar .byte ((((q1.toUInt64 >>> ((8 : Int32) &&& 0x3f).toInt64.toUInt64).toInt64).toInt32).toInt8.toInt32))) 2 (nar .byte ((((q1.toUInt64 >>> ((16 : Int32) &&& 0x3f).toInt64.toUInt64).toInt64).toInt32).toInt8.toInt32))) 3 (nar .byte ((((q1.toUInt64 >>> ((24 : Int32) &&& 0x3f).toInt64.toUInt64).toInt64).toInt32).toInt8.toInt32))) 4 (nar .byte ((((q1.toUInt64 >>> ((32 : Int32) &&& 0x3f).toInt64.toUInt64).toInt64).toInt32).toInt8.toInt32))) 5 (nar .byte ((((q1.toUInt64 >>> ((40 : Int32) &&& 0x3f).toInt64.toUInt64).toInt64).toInt32).toInt8.toInt32))) 6 (nar .byte ((((q1.toUInt64 >>> ((48 : Int32) &&& 0x3f).toInt64.toUInt64).toInt64).toInt32).toInt8.toInt32))) 7 (nar .byte ((((q1.toUInt64 >>> ((56 : Int32) &&& 0x3f).toInt64.toUInt64).toInt64).toInt32).toInt8.toInt32))) h75 n0 Zs (own_hin (own_o (own_n _ _ e83) e97) (by decide)) A_b2 E_b2) eT pd_1 rfl (by rw [hml]; rfl) (by decide) 0 rfl (by decide) (by decide) (by decide) 207 rfl ?_
  intro T204 L9 v9 X hQ
  obtain ⟨rfl, N9, eT⟩ := hQ
  have N := Fr.app N N9
  show Go p e below _ T204 (mkF m 207 #[.val (.long q1), .second, .val (.int p2), .val (.ref b2), .val (.int v83), .val (.int v97), .val (.int v193), .unset] [(.int (f1 v193 v97 (7 : Int32) v83 (updI (updI (updI (updI (updI (updI (updI (updI (fun _ => (0 : Int32)) 0 (nar .byte ((q1.toInt32).toInt8.toInt32))) 1 (nar .byte ((((q1.toUInt64 >>> ((8 : Int32) &&& 0x3f).toInt64.toUInt64).toInt64).toInt32).toInt8.toInt32))) 2 (nar .byte ((((q1.toUInt64 >>> ((16 : Int32) &&& 0x3f).toInt64.toUInt64).toInt64).toInt32).toInt8.toInt32))) 3 (nar .byte ((((q1.toUInt64 >>> ((24 : Int32) &&& 0x3f).toInt64.toUInt64).toInt64).toInt32).toInt8.toInt32))) 4 (nar .byte ((((q1.toUInt64 >>> ((32 : Int32) &&& 0x3f).toInt64.toUInt64).toInt64).toInt32).toInt8.toInt32))) 5 (nar .byte ((((q1.toUInt64 >>> ((40 : Int32) &&& 0x3f).toInt64.toUInt64).toInt64).toInt32).toInt8.toInt32))) 6 (nar .byte ((((q1.toUInt64 >>> ((48 : Int32) &&& 0x3f).toInt64.toUInt64).toInt64).toInt32).toInt8.toInt32))) 7 (nar .byte ((((q1.toUInt64 >>> ((56 : Int32) &&& 0x3f).toInt64.toUInt64).toInt64).toInt32).toInt8.toInt32)))))])
  obtain ⟨v207, e207⟩ : ∃ z : Int32, (f1 v193 v97 (7 : Int32) v83 (updI (updI (updI (updI (updI (updI (updI (updI (fun _ => (0 : Int32)) 0 (nar .byte ((q1.toInt32).toInt8.toInt32))) 1 (nar .byte ((((q1.toUInt64 >>> ((8 : Int32) &&& 0x3f).toInt64.toUInt64).toInt64).toInt32).toInt8.toInt32))) 2 (nar .byte ((((q1.toUInt64 >>> ((16 : Int32) &&& 0x3f).toInt64.toUInt64).toInt64).toInt32).toInt8.toInt32))) 3 (nar .byte ((((q1.toUInt64 >>> ((24 : Int32) &&& 0x3f).toInt64.toUInt64).toInt64).toInt32).toInt8.toInt32))) 4 (nar .byte ((((q1.toUInt64 >>> ((32 : Int32) &&& 0x3f).toInt64.toUInt64).toInt64).toInt32).toInt8.toInt32))) 5 (nar .byte ((((q1.toUInt64 >>> ((40 : Int32) &&& 0x3f).toInt64.toUInt64).toInt64).toInt32).toInt8.toInt32))) 6 (nar .byte ((((q1.toUInt64 >>> ((48 : Int32) &&& 0x3f).toInt64.toUInt64).toInt64).toInt32).toInt8.toInt32))) 7 (nar .byte ((((q1.toUInt64 >>> ((56 : Int32) &&& 0x3f).toInt64.toUInt64).toInt64).toInt32).toInt8.toInt32)))) = z := ⟨_, rfl⟩
  refine own_istore X hx hby at_207 e207 (l' := #[.val (.long q1), .second, .val (.int p2), .val (.ref b2), .val (.int v83), .val (.int v97), .val (.int v207), .unset]) rfl 209 rfl ?_
  refine own_iload X hx hby v207 at_209 rfl 211 rfl ?_
  refine own_callS X hx hby hZ (st := []) [(.int v207)] rfl hown (hw _ (List.mem_of_getElem? (i := 7) rfl)) (hw _ (List.mem_of_getElem? (i := 8) rfl)) (hw _ (List.mem_of_getElem? (i := 4) rfl)) (hw _ (List.mem_of_getElem? (i := 9) rfl)) (by decide) at_211 (rm2 l Z a0 hw v207 h75 n0 Zs ) eT pd_0 rfl (by rw [hml]; rfl) (by decide) 0 rfl (by decide) (by decide) (by decide) 214 rfl ?_
  intro T211 L9 v9 X hQ
  obtain ⟨rfl, N9, eT⟩ := hQ
  have N := Fr.app N N9
  show Go p e below _ T211 (mkF m 214 #[.val (.long q1), .second, .val (.int p2), .val (.ref b2), .val (.int v83), .val (.int v97), .val (.int v207), .unset] [(.int (((((v207 ^^^ ((v207.toUInt32 >>> ((16 : Int32) &&& 31).toUInt32).toInt32)) * (-2048144789 : Int32)) ^^^ ((((v207 ^^^ ((v207.toUInt32 >>> ((16 : Int32) &&& 31).toUInt32).toInt32)) * (-2048144789 : Int32)).toUInt32 >>> ((13 : Int32) &&& 31).toUInt32).toInt32)) * (-1028477387 : Int32)) ^^^ ((((((v207 ^^^ ((v207.toUInt32 >>> ((16 : Int32) &&& 31).toUInt32).toInt32)) * (-2048144789 : Int32)) ^^^ ((((v207 ^^^ ((v207.toUInt32 >>> ((16 : Int32) &&& 31).toUInt32).toInt32)) * (-2048144789 : Int32)).toUInt32 >>> ((13 : Int32) &&& 31).toUInt32).toInt32)) * (-1028477387 : Int32)).toUInt32 >>> ((16 : Int32) &&& 31).toUInt32).toInt32)))])
  obtain ⟨v214, e214⟩ : ∃ z : Int32, (((((v207 ^^^ ((v207.toUInt32 >>> ((16 : Int32) &&& 31).toUInt32).toInt32)) * (-2048144789 : Int32)) ^^^ ((((v207 ^^^ ((v207.toUInt32 >>> ((16 : Int32) &&& 31).toUInt32).toInt32)) * (-2048144789 : Int32)).toUInt32 >>> ((13 : Int32) &&& 31).toUInt32).toInt32)) * (-1028477387 : Int32)) ^^^ ((((((v207 ^^^ ((v207.toUInt32 >>> ((16 : Int32) &&& 31).toUInt32).toInt32)) * (-2048144789 : Int32)) ^^^ ((((v207 ^^^ ((v207.toUInt32 >>> ((16 : Int32) &&& 31).toUInt32).toInt32)) * (-2048144789 : Int32)).toUInt32 >>> ((13 : Int32) &&& 31).toUInt32).toInt32)) * (-1028477387 : Int32)).toUInt32 >>> ((16 : Int32) &&& 31).toUInt32).toInt32)) = z := ⟨_, rfl⟩
  refine own_istore X hx hby at_214 e214 (l' := #[.val (.long q1), .second, .val (.int p2), .val (.ref b2), .val (.int v83), .val (.int v97), .val (.int v207), .val (.int v214)]) rfl 216 rfl ?_
  refine own_aloadN X hx hby (.ref b2) at_216 rfl rfl 217 rfl ?_
  refine own_iload X hx hby v97 at_217 rfl 219 rfl ?_
  refine own_iload X hx hby v83 at_219 rfl 221 rfl ?_
  refine own_callS X hx hby hZ (st := []) [(.ref b2), (.int v97), (.int v83)] rfl hown (hw _ (List.mem_of_getElem? (i := 12) rfl)) (hw _ (List.mem_of_getElem? (i := 13) rfl)) (hw _ (List.mem_of_getElem? (i := 14) rfl)) (hw _ (List.mem_of_getElem? (i := 15) rfl)) (by decide) at_221 (rm3 l Z a0 hw b2 v97 v83 (updI (updI (updI (updI (updI (updI (updI (updI (fun _ => (0 : Int32)) 0 (nar .byte ((q1.toInt32).toInt8.toInt32))) 1 (nar .byte ((((q1.toUInt64 >>> ((8 : Int32) &&& 0x3f).toInt64.toUInt64).toInt64).toInt32).toInt8.toInt32))) 2 (nar .byte ((((q1.toUInt64 >>> ((16 : Int32) &&& 0x3f).toInt64.toUInt64).toInt64).toInt32).toInt8.toInt32))) 3 (nar .byte ((((q1.toUInt64 >>> ((24 : Int32) &&& 0x3f).toInt64.toUInt64).toInt64).toInt32).toInt8.toInt32))) 4 (nar .byte ((((q1.toUInt64 >>> ((32 : Int32) &&& 0x3f).toInt64.toUInt64).toInt64).toInt32).toInt8.toInt32))) 5 (nar .byte ((((q1.toUInt64 >>> ((40 : Int32) &&& 0x3f).toInt64.toUInt64).toInt64).toInt32).toInt8.toInt32))) 6 (nar .byte ((((q1.toUInt64 >>> ((48 : Int32) &&& 0x3f).toInt64.toUInt64).toInt64).toInt32).toInt8.toInt32))) 7 (nar .byte ((((q1.toUInt64 >>> ((56 : Int32) &&& 0x3f).toInt64.toUInt64).toInt64).toInt32).toInt8.toInt32))) h75 n0 Zs (own_o (own_n _ _ e83) e97) A_b2 E_b2) eT pd_2 rfl (by rw [hml]; rfl) (by decide) 0 rfl (by decide) (by decide) (by decide) 224 rfl ?_
  intro T221 L9 v9 X hQ
  obtain ⟨rfl, N9, eT⟩ := hQ
  have N := Fr.app N N9
  show Go p e below _ T221 (mkF m 224 #[.val (.long q1), .second, .val (.int p2), .val (.ref b2), .val (.int v83), .val (.int v97), .val (.int v207), .val (.int v214)] [(.int (own_mix (own_run (updI (updI (updI (updI (updI (updI (updI (updI (fun _ => (0 : Int32)) 0 (nar .byte ((q1.toInt32).toInt8.toInt32))) 1 (nar .byte ((((q1.toUInt64 >>> ((8 : Int32) &&& 0x3f).toInt64.toUInt64).toInt64).toInt32).toInt8.toInt32))) 2 (nar .byte ((((q1.toUInt64 >>> ((16 : Int32) &&& 0x3f).toInt64.toUInt64).toInt64).toInt32).toInt8.toInt32))) 3 (nar .byte ((((q1.toUInt64 >>> ((24 : Int32) &&& 0x3f).toInt64.toUInt64).toInt64).toInt32).toInt8.toInt32))) 4 (nar .byte ((((q1.toUInt64 >>> ((32 : Int32) &&& 0x3f).toInt64.toUInt64).toInt64).toInt32).toInt8.toInt32))) 5 (nar .byte ((((q1.toUInt64 >>> ((40 : Int32) &&& 0x3f).toInt64.toUInt64).toInt64).toInt32).toInt8.toInt32))) 6 (nar .byte ((((q1.toUInt64 >>> ((48 : Int32) &&& 0x3f).toInt64.toUInt64).toInt64).toInt32).toInt8.toInt32))) 7 (nar .byte ((((q1.toUInt64 >>> ((56 : Int32) &&& 0x3f).toInt64.toUInt64).toInt64).toInt32).toInt8.toInt32))) (Int32.toNatClampNeg v97) (Int32.toNatClampNeg v83) (-2128831035 : Int32))))])
  refine own_iload X hx hby v214 at_224 rfl 226 rfl ?_
  have c226 : (own_mix (own_run (updI (updI (updI (updI (updI (updI (updI (updI (fun _ => (0 : Int32)) 0 (nar .byte ((q1.toInt32).toInt8.toInt32))) 1 (nar .byte ((((q1.toUInt64 >>> ((8 : Int32) &&& 0x3f).toInt64.toUInt64).toInt64).toInt32).toInt8.toInt32))) 2 (nar .byte ((((q1.toUInt64 >>> ((16 : Int32) &&& 0x3f).toInt64.toUInt64).toInt64).toInt32).toInt8.toInt32))) 3 (nar .byte ((((q1.toUInt64 >>> ((24 : Int32) &&& 0x3f).toInt64.toUInt64).toInt64).toInt32).toInt8.toInt32))) 4 (nar .byte ((((q1.toUInt64 >>> ((32 : Int32) &&& 0x3f).toInt64.toUInt64).toInt64).toInt32).toInt8.toInt32))) 5 (nar .byte ((((q1.toUInt64 >>> ((40 : Int32) &&& 0x3f).toInt64.toUInt64).toInt64).toInt32).toInt8.toInt32))) 6 (nar .byte ((((q1.toUInt64 >>> ((48 : Int32) &&& 0x3f).toInt64.toUInt64).toInt64).toInt32).toInt8.toInt32))) 7 (nar .byte ((((q1.toUInt64 >>> ((56 : Int32) &&& 0x3f).toInt64.toUInt64).toInt64).toInt32).toInt8.toInt32))) (Int32.toNatClampNeg v97) (Int32.toNatClampNeg v83) (-2128831035 : Int32))) = v214 := own_law _ _ _ _ _ _ _ _ _ _ _ _ (own_o (own_n _ _ e83) e97) e114 e127 e140 e153 e166 e179 e193 e207 e214
  refine own_icmp_ne X hx hby at_226 233 229 (by decide) rfl (fun q => absurd c226 q) (fun _ => ?_)
  refine own_iconst X hx hby (1 : Int32) at_229 rfl 230 rfl ?_
  refine own_goto X hx hby at_230 234 (by decide) ?_
  refine own_retN X hx hby hret hlk (t := .boolean) (z' := (1 : Int32)) (by simp) at_234 (by decide) (by decide) rfl ?_
  rw [eT]
  exact ⟨rfl, N⟩
set_option maxRecDepth 65536 in
set_option maxHeartbeats 40000000 in
theorem comes_1 {Post : Tables → Env → Array Value → State → Outcome → State → Prop} (hpost : ∀ tb e args s v u, (limb_1_1.after args s (.returned v) u = true ∧ limb_1_2.after args s (.returned v) u = true ∧ True) → FrameEnd s (.returned v) u (Jvm.fieldLocs frame_1_writes args s ++ Jvm.arrayLocs frame_1_arrays args s ++ Jvm.staticLocs frame_1_statics s) 16 128 → Post tb e args s (.returned v) u) :
    ArmFor flags0 classFile x code maxLocals ret World_1 tables_1 room_1 Calls_1 rest_1 Pre_1 Post := by
  intro l hfl _ _ p e ha hc hk s m args below hf hA hF happ hP
  obtain ⟨hcalls, hrest, hpre⟩ := hP
  obtain ⟨-, -, -, hnamed, -, -, -, hat⟩ := (Spec.applies_iff hf).mp happ
  obtain ⟨hg, hn⟩ := and_e (Cond.before_iff.mp (show (Jvm.Cond.and given_1 narrow_1).before args s = true from hpre))
  obtain ⟨gg1, gg2⟩ := and_e hg
  obtain ⟨gg3, gg4⟩ := and_e gg2
  obtain ⟨w0, w1, rfl⟩ : ∃ w0 w1 : Value, args = #[w0, w1] := by
    have hs : args.size = 2 := by simpa [Cond.value, given_1] using gg1
    obtain ⟨L⟩ := args
    match L, hs with
    | [w0, w1], _ => exact ⟨w0, w1, rfl⟩
  have hw := fun d (hd : d ∈ tables_1) => atoms_spec (ws := Jvm.Cond.code x code maxLocals ret :: tables_1) hat d (List.mem_cons_of_mem _ hd)
  have hfit : Fit s := fun {y c} hc i hi => by
    obtain ⟨ha, rfl⟩ := Array.getElem?_eq_some_iff.mp hc
    have q := List.all_eq_true.mp ((Array.all_eq_true_iff_forall_mem.mp hF) _ (Array.getElem_mem ha)) i (List.mem_range.mpr hi)
    simpa [Array.getElem?_eq_getElem hi] using q
  obtain ⟨i0, ei0⟩ := isL_v gg3
  obtain rfl : w0 = (.long i0) := Option.some.inj ei0
  obtain ⟨i1, ei1⟩ := is_v gg4
  obtain rfl : w1 = (.int i1) := Option.some.inj ei1
  obtain ⟨n, o, h1, h2, h3, _, L, rfl, ⟨rfl, N⟩, hq⟩ := rm0 l s _ hw i0 i1  s.heap s.heap.size (Nat.le_refl _)  tables_1 p e ha hc hk s m _ below hf ((Spec.applies_iff_loose hf).mp happ).1 ⟨rfl, State.Warmed39.refl s, rfl⟩ trivial
  refine ⟨n, _, h1, h2, h3, hpost _ _ _ _ _ _ ⟨Cond.after_iff.mpr rfl, Cond.after_iff.mpr (eq_i res_at (Term.int_eval (1)) rfl), trivial⟩ ⟨hq.1, hq.2.1, (hq.2.2.sift fun y hy => Or.inr (N y hy)).mono (by decide) (by decide)⟩⟩
theorem main_1_1 : Claimed_1_1 := comes_1 fun _ _ _ _ _ _ h hF => ⟨h.1, hF⟩
theorem main_1_2 : Claimed_1_2 := comes_1 fun _ _ _ _ _ _ h hF => ⟨h.2.1, hF⟩
end Jvm.Pilot.@@N@@
namespace Jvm.Pilot.@@N@@
open Jvm Jvm.ClassFile Sem Op Lib Jvm.Free Jvm.Stand Jvm.Pilot.@@N@@.Jvm.D
/-! MADE BY PROGRAM (witnessworld.py) out of the Statement's table words and the real class files: 9 classes; the members and pool entries that the words name. The judged class is class 1, her method 1. -/
namespace start1
open Jvm.ClassFile
def u (s : String) : CpInfo := .utf8 (stringToUtf16 s)
/-- a pool by its gaps: so many unusable entries, then the entry; so many at the end -/
def gap : Nat → List CpInfo → List CpInfo
  | 0, r => r
  | n + 1, r => .unusable :: gap n r
def poolList (es : List (Nat × CpInfo)) (last : Nat) : List CpInfo := es.foldr (fun e r => gap e.1 (e.2 :: r)) (gap last [])
def pool (es : List (Nat × CpInfo)) (last : Nat) : Array CpInfo := ⟨poolList es last⟩
def fileOf (pool : Array CpInfo) (this : Nat) (attrs : Array Attribute := #[]) (ms : Array MethodInfo := #[]) (fl : Nat := 33) (sup : Nat := 0) (ifs : Array Nat := #[]) (fds : Array FieldInfo := #[]) : ClassFile where
  minorVersion := 0
  majorVersion := 65
  constantPool := pool
  accessFlags := fl
  thisClass := this
  superClass := sup
  interfaces := ifs
  fields := fds
  methods := ms
  attributes := attrs
def plain (name : String) (sup : Option ClassId) : Class where
  name := name
  kind := .ordinary
  loader := none
  accessFlags := 33
  super := sup
  interfaces := #[]
  cf := none
  fields := #[]
  methods := #[]
  instanceTypes := #[]
  staticTypes := #[]
  resolved := #[]
  callSites := []
  init := .initialized
  statics := none
  mirror := none

def pool0 : Array CpInfo := pool [(5, u "<init>"), (0, u "()V"), (1, .class_ 10), (1, u "java/lang/Object")] 113

def k0m0 : Method := { name := "<init>", desc := "()V", sig := { parameters := [], returnType := none }, accessFlags := 1, code := none }
/-- java/lang/Object -/
def k0 : Class := { plain "java/lang/Object" none with
  accessFlags := 33
  interfaces := #[]
  cf := some (fileOf pool0 8 #[] #[{ accessFlags := 1, nameIndex := 5, descriptorIndex := 6, attributes := #[] }] 33 0 #[] #[])
  fields := #[]
  methods := #[k0m0]
  instanceTypes := #[]
  staticTypes := #[]
  resolved := Array.replicate 124 none
  statics := none }

def pool1 : Array CpInfo := pool [(2, .class_ 4), (1, u "java/lang/Object"), (0, u "<init>"), (0, u "()V"), (0, .integer 2166136261), (0, .methodref 9 10), (0, .class_ 11), (0, .nameAndType 12 13), (0, u "com/example/kvadtree/kvadtree/StoreLayoutIdHashPinLaw"), (0, u "fnv"), (0, u "(I[BIII)I"), (0, .methodref 9 15), (0, .nameAndType 16 17), (0, u "fmix32"), (0, u "(I)I"), (0, .methodref 19 20), (0, .class_ 21), (0, .nameAndType 22 23), (0, u "com/example/kvadtree/kvadtree/StoreLayout"), (0, u "idHash"), (0, u "([BII)I"), (0, .integer 16777619), (0, .integer 2246822507), (0, .integer 3266489909), (2, u "law"), (0, u "(JI)Z")] 5

def k1m0 : Method := { name := "<init>", desc := "()V", sig := { parameters := [], returnType := none }, accessFlags := 2, code := none }
def k1c1 : Code := { maxStack := 5, maxLocals := 8, code := code, exceptionTable := #[], attributes := #[] }
def k1m1 : Method := { name := "law", desc := "(JI)Z", sig := { parameters := [.long, .int], returnType := some .boolean }, accessFlags := 9, code := some k1c1 }
def k1c2 : Code := { maxStack := 4, maxLocals := 5, code := method_3_code, exceptionTable := #[], attributes := #[] }
def k1m2 : Method := { name := "fnv", desc := "(I[BIII)I", sig := { parameters := [.int, (.array .byte), .int, .int, .int], returnType := some .int }, accessFlags := 10, code := some k1c2 }
def k1c3 : Code := { maxStack := 3, maxLocals := 2, code := method_4_code, exceptionTable := #[], attributes := #[] }
def k1m3 : Method := { name := "fmix32", desc := "(I)I", sig := { parameters := [.int], returnType := some .int }, accessFlags := 10, code := some k1c3 }
/-- com/example/kvadtree/kvadtree/StoreLayoutIdHashPinLaw -/
def k1 : Class := { plain "com/example/kvadtree/kvadtree/StoreLayoutIdHashPinLaw" (some 0) with
  accessFlags := 49
  interfaces := #[]
  cf := some (fileOf pool1 9 #[] #[{ accessFlags := 2, nameIndex := 5, descriptorIndex := 6, attributes := #[] }, { accessFlags := 9, nameIndex := 29, descriptorIndex := 30, attributes := #[] }, { accessFlags := 10, nameIndex := 12, descriptorIndex := 13, attributes := #[] }, { accessFlags := 10, nameIndex := 16, descriptorIndex := 17, attributes := #[] }] 49 2 #[] #[])
  fields := #[]
  methods := #[k1m0, k1m1, k1m2, k1m3]
  instanceTypes := #[]
  staticTypes := #[]
  resolved := Array.replicate 36 none
  statics := none }

def pool2 : Array CpInfo := pool [(4, .class_ 6), (1, u "java/lang/Object"), (0, u "<init>"), (0, u "()V"), (6, .class_ 16), (0, u "com/example/kvadtree/kvadtree/StoreLayout"), (85, u "idHash"), (0, u "([BII)I"), (0, .integer 2166136261), (0, .integer 16777619), (0, .integer 2246822507), (0, .integer 3266489909), (146, u "FORMAT_KEY"), (0, u "[B"), (4, u "SERIES_FORMAT_KEY"), (68, u "COUNT_KEY"), (4, u "CAPACITY_KEY"), (3, u "PERIOD_KEY"), (4, u "LOGGED_KEY"), (4, u "FOLDED_KEY"), (6, u "SERIES_LEAF_KEY"), (2, u "POSITIONS"), (0, u "Lcom/example/kvadtree/kvadtree/Quadtree;"), (0, u "ID_BUCKETS"), (0, u "I"), (2, u "FORMAT"), (1, u "TIMED_FORMAT"), (1, u "EARLIER_PERIOD_MILLIS"), (0, u "J"), (0, u "POINTS"), (0, u "B"), (1, u "IDS"), (1, u "BUCKET"), (1, u "TRACKS"), (1, u "HISTORY"), (1, u "LOG"), (1, u "SERIES"), (1, u "META"), (1, u "Z_BYTES"), (1, u "FNV_OFFSET"), (0, u "FNV_PRIME")] 98

def k2m0 : Method := { name := "<init>", desc := "()V", sig := { parameters := [], returnType := none }, accessFlags := 2, code := none }
def k2c1 : Code := { maxStack := 3, maxLocals := 5, code := prog_59_method_10_code, exceptionTable := #[], attributes := #[] }
def k2m1 : Method := { name := "idHash", desc := "([BII)I", sig := { parameters := [(.array .byte), .int, .int], returnType := some .int }, accessFlags := 8, code := some k2c1 }
/-- com/example/kvadtree/kvadtree/StoreLayout -/
def k2 : Class := { plain "com/example/kvadtree/kvadtree/StoreLayout" (some 0) with
  accessFlags := 48
  interfaces := #[]
  cf := some (fileOf pool2 15 #[] #[{ accessFlags := 2, nameIndex := 7, descriptorIndex := 8, attributes := #[] }, { accessFlags := 8, nameIndex := 102, descriptorIndex := 103, attributes := #[] }] 48 4 #[] #[{ accessFlags := 24, nameIndex := 254, descriptorIndex := 255, attributes := #[] }, { accessFlags := 24, nameIndex := 329, descriptorIndex := 255, attributes := #[] }, { accessFlags := 24, nameIndex := 334, descriptorIndex := 255, attributes := #[] }, { accessFlags := 24, nameIndex := 338, descriptorIndex := 255, attributes := #[] }, { accessFlags := 24, nameIndex := 343, descriptorIndex := 255, attributes := #[] }, { accessFlags := 24, nameIndex := 348, descriptorIndex := 255, attributes := #[] }, { accessFlags := 24, nameIndex := 260, descriptorIndex := 255, attributes := #[] }, { accessFlags := 24, nameIndex := 355, descriptorIndex := 255, attributes := #[] }, { accessFlags := 24, nameIndex := 358, descriptorIndex := 359, attributes := #[] }, { accessFlags := 24, nameIndex := 360, descriptorIndex := 361, attributes := #[] }, { accessFlags := 26, nameIndex := 364, descriptorIndex := 361, attributes := #[] }, { accessFlags := 26, nameIndex := 366, descriptorIndex := 361, attributes := #[] }, { accessFlags := 26, nameIndex := 368, descriptorIndex := 369, attributes := #[] }, { accessFlags := 26, nameIndex := 370, descriptorIndex := 371, attributes := #[] }, { accessFlags := 26, nameIndex := 373, descriptorIndex := 371, attributes := #[] }, { accessFlags := 26, nameIndex := 375, descriptorIndex := 371, attributes := #[] }, { accessFlags := 26, nameIndex := 377, descriptorIndex := 371, attributes := #[] }, { accessFlags := 26, nameIndex := 379, descriptorIndex := 371, attributes := #[] }, { accessFlags := 26, nameIndex := 381, descriptorIndex := 371, attributes := #[] }, { accessFlags := 26, nameIndex := 383, descriptorIndex := 371, attributes := #[] }, { accessFlags := 26, nameIndex := 385, descriptorIndex := 371, attributes := #[] }, { accessFlags := 26, nameIndex := 387, descriptorIndex := 361, attributes := #[] }, { accessFlags := 26, nameIndex := 389, descriptorIndex := 361, attributes := #[] }, { accessFlags := 26, nameIndex := 390, descriptorIndex := 361, attributes := #[] }])
  fields := #[{ name := "FORMAT_KEY", type := (.array .byte), accessFlags := 24, slot := 0, constantValue := 0 }, { name := "COUNT_KEY", type := (.array .byte), accessFlags := 24, slot := 1, constantValue := 0 }, { name := "CAPACITY_KEY", type := (.array .byte), accessFlags := 24, slot := 2, constantValue := 0 }, { name := "PERIOD_KEY", type := (.array .byte), accessFlags := 24, slot := 3, constantValue := 0 }, { name := "LOGGED_KEY", type := (.array .byte), accessFlags := 24, slot := 4, constantValue := 0 }, { name := "FOLDED_KEY", type := (.array .byte), accessFlags := 24, slot := 5, constantValue := 0 }, { name := "SERIES_FORMAT_KEY", type := (.array .byte), accessFlags := 24, slot := 6, constantValue := 0 }, { name := "SERIES_LEAF_KEY", type := (.array .byte), accessFlags := 24, slot := 7, constantValue := 0 }, { name := "POSITIONS", type := (.object "com/example/kvadtree/kvadtree/Quadtree"), accessFlags := 24, slot := 8, constantValue := 0 }, { name := "ID_BUCKETS", type := .int, accessFlags := 24, slot := 9, constantValue := 0 }, { name := "FORMAT", type := .int, accessFlags := 26, slot := 10, constantValue := 0 }, { name := "TIMED_FORMAT", type := .int, accessFlags := 26, slot := 11, constantValue := 0 }, { name := "EARLIER_PERIOD_MILLIS", type := .long, accessFlags := 26, slot := 12, constantValue := 0 }, { name := "POINTS", type := .byte, accessFlags := 26, slot := 13, constantValue := 0 }, { name := "IDS", type := .byte, accessFlags := 26, slot := 14, constantValue := 0 }, { name := "BUCKET", type := .byte, accessFlags := 26, slot := 15, constantValue := 0 }, { name := "TRACKS", type := .byte, accessFlags := 26, slot := 16, constantValue := 0 }, { name := "HISTORY", type := .byte, accessFlags := 26, slot := 17, constantValue := 0 }, { name := "LOG", type := .byte, accessFlags := 26, slot := 18, constantValue := 0 }, { name := "SERIES", type := .byte, accessFlags := 26, slot := 19, constantValue := 0 }, { name := "META", type := .byte, accessFlags := 26, slot := 20, constantValue := 0 }, { name := "Z_BYTES", type := .int, accessFlags := 26, slot := 21, constantValue := 0 }, { name := "FNV_OFFSET", type := .int, accessFlags := 26, slot := 22, constantValue := 0 }, { name := "FNV_PRIME", type := .int, accessFlags := 26, slot := 23, constantValue := 0 }]
  methods := #[k2m0, k2m1]
  instanceTypes := #[]
  staticTypes := #[(.array .byte), (.array .byte), (.array .byte), (.array .byte), (.array .byte), (.array .byte), (.array .byte), (.array .byte), (.object "com/example/kvadtree/kvadtree/Quadtree"), .int, .int, .int, .long, .byte, .byte, .byte, .byte, .byte, .byte, .byte, .byte, .int, .int, .int]
  resolved := Array.replicate 489 none
  statics := none }

def pool3 : Array CpInfo := pool [(1, u "java/lang/Cloneable"), (0, .class_ 1), (0, u "java/lang/Object"), (0, .class_ 3)] 3

/-- java/lang/Cloneable -/
def k3 : Class := { plain "java/lang/Cloneable" (some 0) with
  accessFlags := 1537
  interfaces := #[]
  cf := some (fileOf pool3 2 #[] #[] 1537 4 #[] #[])
  fields := #[]
  methods := #[]
  instanceTypes := #[]
  staticTypes := #[]
  resolved := Array.replicate 8 none
  statics := none }

def pool4 : Array CpInfo := pool [(1, u "java/io/Serializable"), (0, .class_ 1), (0, u "java/lang/Object"), (0, .class_ 3)] 3

/-- java/io/Serializable -/
def k4 : Class := { plain "java/io/Serializable" (some 0) with
  accessFlags := 1537
  interfaces := #[]
  cf := some (fileOf pool4 2 #[] #[] 1537 4 #[] #[])
  fields := #[]
  methods := #[]
  instanceTypes := #[]
  staticTypes := #[]
  resolved := Array.replicate 8 none
  statics := none }

/-- the primitive byte -/
def k5 : Class := { plain "byte" none with kind := .primitive 'B', accessFlags := 0x411 }
/-- [B -/
def k6 : Class := { plain "[B" (some 0) with kind := .array 5 .byte, interfaces := #[3, 4], accessFlags := 1041 }

/-- the primitive int -/
def k7 : Class := { plain "int" none with kind := .primitive 'I', accessFlags := 0x411 }
/-- [I -/
def k8 : Class := { plain "[I" (some 0) with kind := .array 7 .int, interfaces := #[3, 4], accessFlags := 1041 }

def heap : Heap := #[]
def classes : Array Class := #[k0, k1, k2, k3, k4, k5, k6, k7, k8]
def interned : List (Array UInt16 × Addr) := []
def slotsUsed : Nat := 0
def theMethod : MethodId := ⟨1, 1⟩
def args0 : Array Value := #[.long 3, .int 4]
def aboutOver (below : List Frame) : State where
  vm := { classes := classes, interned := interned.toArray }
  heap := heap
  slotsUsed := slotsUsed
  threads := #[{ frames := .invoking theMethod args0 :: below }]
def below0 : List Frame := [.native { method := ⟨0, 0⟩, args := #[] }]
def about1 : State := aboutOver below0
def p0 : Program := .bare "" "" ""
def e0 : Env := launch0.env 0 0 0
theorem w_frames : about1.frames = Frame.invoking theMethod args0 :: below0 := rfl
set_option maxRecDepth 65536 in
theorem w_args : argsFit about1.vm theMethod args0 = true := by decide +kernel
set_option maxRecDepth 65536 in
theorem w_heap : heapFits about1 = true := by decide +kernel
set_option maxRecDepth 65536 in
theorem w_runnable : about1.curStatus? = some .runnable := by decide +kernel
set_option maxRecDepth 65536 in
theorem w_alone : about1.alone = true := by decide +kernel
set_option maxRecDepth 65536 in
theorem w_named : about1.methodNamed? x = some theMethod := by decide +kernel
set_option maxRecDepth 65536 in
theorem w_hears : about1.hears theMethod below0 = true := by decide +kernel
set_option maxRecDepth 65536 in
theorem w_ripe : about1.ripe theMethod args0 below0 = true := by decide +kernel
theorem w_running : about1.status = .running := rfl
set_option maxRecDepth 65536 in
theorem w_room : about1.hasRoom e0.platform room_1 = true :=
  launch0.hasRoom_least _ room_1 (by decide +kernel) (by decide +kernel) (by decide +kernel) (by decide +kernel) (by decide +kernel) (by decide +kernel)
theorem allAtoms_all (ts : List Jvm.Cond) (a : Array Jvm.Value) (st : Jvm.State) : (allAtoms ts).before a st = ts.all (fun c => c.before a st) := by
  induction ts with
  | nil => rfl
  | cons c t ih =>
    show (Jvm.Cond.and c (allAtoms t)).before a st = _
    rw [Jvm.Cond.before_and, ih, List.all_cons]
def words1 : List Jvm.Cond := Jvm.Cond.code x code maxLocals ret :: tables_1
/-- a 'code' word, met by the world's own term for the bytes: nothing is compared byte by byte -/
theorem code_word {y : MethodName} {bytes : ByteArray} {mx : Nat} {rt : Option FieldType} {a : Array Value} {s : State} {m : MethodId} {meth : Method} {c : Code} (h1 : s.methodNamed? y = some m) (h2 : s.vm.method? m = some meth) (h3 : meth.code = some c) (h4 : c.code = bytes)
    (h5 : (c.maxLocals == mx && c.exceptionTable.isEmpty && decide (c.maxStack ≤ mostOperands) && decide (meth.sig.returnType = rt) && !meth.locks && decide (parseMethodDescriptor y.desc = some meth.sig)) = true) : (Jvm.Cond.code y bytes mx rt).before a s = true := by
  simp only [Bool.and_eq_true, beq_iff_eq, Bool.not_eq_true', decide_eq_true_eq] at h5
  obtain ⟨⟨⟨⟨⟨g1, g2⟩, g3⟩, g4⟩, g5⟩, g6⟩ := h5
  simp [Cond.before, Cond.holds, Cond.value, h1, h2, h3, h4, g1, g2, g3, g4, g5, g6]
def isCode : Jvm.Cond → Bool
  | .code _ _ _ _ => true
  | _ => false
theorem all_split {L : List Jvm.Cond} {P : Jvm.Cond → Bool} (h1 : L.all (fun c => isCode c || P c) = true) (h2 : ∀ c ∈ L.filter isCode, P c = true) : L.all P = true := by
  refine List.all_eq_true.mpr fun c hc => ?_
  have h := List.all_eq_true.mp h1 c hc
  rcases Bool.eq_false_or_eq_true (isCode c) with hi | hi
  · exact h2 c (List.mem_filter.mpr ⟨hc, hi⟩)
  · simpa [hi] using h
set_option maxRecDepth 65536 in
theorem w_c0 : (Jvm.Cond.code x code maxLocals ret).before args0 about1 = true := code_word (m := ⟨1, 1⟩) (meth := k1m1) (c := k1c1) (by decide +kernel) rfl rfl rfl (by decide +kernel)
set_option maxRecDepth 65536 in
theorem w_c1 : (Jvm.Cond.code ({ cls := "com/example/kvadtree/kvadtree/StoreLayoutIdHashPinLaw", name := "fnv", desc := "(I[BIII)I" } : Jvm.MethodName) method_3_code (5 : Nat) (Option.some Jvm.ClassFile.FieldType.int)).before args0 about1 = true := code_word (m := ⟨1, 2⟩) (meth := k1m2) (c := k1c2) (by decide +kernel) rfl rfl rfl (by decide +kernel)
set_option maxRecDepth 65536 in
theorem w_c2 : (Jvm.Cond.code ({ cls := "com/example/kvadtree/kvadtree/StoreLayoutIdHashPinLaw", name := "fmix32", desc := "(I)I" } : Jvm.MethodName) method_4_code (2 : Nat) (Option.some Jvm.ClassFile.FieldType.int)).before args0 about1 = true := code_word (m := ⟨1, 3⟩) (meth := k1m3) (c := k1c3) (by decide +kernel) rfl rfl rfl (by decide +kernel)
set_option maxRecDepth 65536 in
theorem w_c3 : (Jvm.Cond.code ({ cls := "com/example/kvadtree/kvadtree/StoreLayout", name := "idHash", desc := "([BII)I" } : Jvm.MethodName) prog_59_method_10_code (5 : Nat) (Option.some Jvm.ClassFile.FieldType.int)).before args0 about1 = true := code_word (m := ⟨2, 1⟩) (meth := k2m1) (c := k2c1) (by decide +kernel) rfl rfl rfl (by decide +kernel)
def codes1 : List Jvm.Cond := [Jvm.Cond.code x code maxLocals ret, Jvm.Cond.code ({ cls := "com/example/kvadtree/kvadtree/StoreLayoutIdHashPinLaw", name := "fnv", desc := "(I[BIII)I" } : Jvm.MethodName) method_3_code (5 : Nat) (Option.some Jvm.ClassFile.FieldType.int), Jvm.Cond.code ({ cls := "com/example/kvadtree/kvadtree/StoreLayoutIdHashPinLaw", name := "fmix32", desc := "(I)I" } : Jvm.MethodName) method_4_code (2 : Nat) (Option.some Jvm.ClassFile.FieldType.int), Jvm.Cond.code ({ cls := "com/example/kvadtree/kvadtree/StoreLayout", name := "idHash", desc := "([BII)I" } : Jvm.MethodName) prog_59_method_10_code (5 : Nat) (Option.some Jvm.ClassFile.FieldType.int)]
set_option maxRecDepth 65536 in
theorem codes_eq : words1.filter isCode = codes1 := rfl
theorem w_codes : ∀ c ∈ words1.filter isCode, c.before args0 about1 = true := by
  rw [codes_eq]
  intro c hc
  simp only [codes1, List.mem_cons, List.not_mem_nil, or_false] at hc
  rcases hc with rfl | rfl | rfl | rfl
  · exact w_c0
  · exact w_c1
  · exact w_c2
  · exact w_c3
set_option maxRecDepth 65536 in
theorem w_t1 : words1.all (fun c => isCode c || c.before args0 about1) = true := by decide +kernel
theorem w_tables : (allAtoms (Jvm.Cond.code x code maxLocals ret :: tables_1)).before args0 about1 = true := by
  rw [allAtoms_all]
  show words1.all (fun c => c.before args0 about1) = true
  refine all_split ?_ w_codes
  rw [w_t1]
set_option maxRecDepth 65536 in
theorem w_case : (Jvm.Cond.and given_1 narrow_1).before args0 about1 = true := by decide +kernel
theorem w_applies : (headSpec (Jvm.Cond.code x code maxLocals ret :: tables_1) room_1).applies x e0.platform about1 = true :=
  (Spec.applies_iff w_frames).mpr ⟨w_running, w_runnable, w_alone, w_named, w_hears, w_ripe, w_room, w_tables⟩
theorem atStart : AtStart classFile x code maxLocals ret World_1 tables_1 room_1 Calls_1 rest_1 Pre_1 launch0 p0 e0 about1 theMethod args0 below0 :=
  ⟨lists_1, trivial, launch0.admits_env _ _ _, launch0.least_env, fairChoices_fair.cas, fairChoices_fair.clock, w_frames, w_args, w_heap, w_applies, trivial, trivial, w_case⟩
end start1
theorem witness_1 : WitnessClaimed_1 := ⟨start1.p0, start1.e0, start1.about1, start1.theMethod, start1.args0, start1.below0, start1.atStart⟩
end Jvm.Pilot.@@N@@

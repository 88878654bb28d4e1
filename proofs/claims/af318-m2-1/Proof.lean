import JvmDerived
import JvmDerived.Pilot.@@N@@Statement
import JvmDerived.Pilot.@@N@@Code
set_option linter.unusedVariables false
set_option linter.unusedSimpArgs false
namespace Jvm.Pilot.@@N@@
open Jvm Jvm.ClassFile Sem Op Lib Jvm.Free Jvm.Stand Jvm.LawKit Jvm.RoadKit Bundle Jvm.Pilot.@@N@@.Jvm.D
/-! ## the run in continuation form: 'Go G T g': from T with the top frame g the run ends as G says -/
def Go (p : Program) (e : Env) (below : List Frame) (G : State → Outcome → Prop) (T : State) (g : JFrame) : Prop :=
  ∃ s₂ o, Steps p.tables e below (T.setTop g) s₂ ∧ s₂.status = .running ∧ Ended s₂ below o ∧ G s₂ o
/-- what a contract asks of the end -/
def FinQ (s : State) (Q : Option Value → Heap → List Loc → Prop) (kc ks : Nat) (U' : State) (o : Outcome) : Prop :=
  ∃ v L, o = .returned v ∧ Q v U'.heap L ∧ FrameEnd s o U' L kc ks
/-- a body's contract, as backOf takes it -/
def Met1 (l : Launch) (Z : State) (y : MethodName) (bytes : ByteArray) (maxL : Nat) (rt : Option FieldType) (rm : Room) (as : Array Value) (h0 : Heap) (Q : Option Value → Heap → List Loc → Prop) : Prop :=
  ∀ ws : List Jvm.Cond, MetFree l y (head1 (Jvm.Cond.code y bytes maxL rt :: ws) rm) (fun a U => a = as ∧ Z.Warmed39 U.vm ∧ U.heap = h0) (fun _ _ _ _ _ => True)
    (fun _ U o U' => ∃ v L, o = .returned v ∧ Q v U'.heap L ∧ FrameEnd U o U' L rm.cells rm.slots)
section OwnGo
variable {p : Program} {l : Launch} {e : Env} {R : Room} {s : State} {m : MethodId} {args : Array Value} {below : List Frame} {meth : Method} {c : Code} {T T' : State} {locs : List Loc} {cells slots : Nat} {G : State → Outcome → Prop} {Ls : Array Slot} {st : List Value} {pc : Nat} {bs : ByteArray} {Z : State} {a0 : Array Value} {h : Heap} {g g' : JFrame}
theorem Go.by (q : ∀ t, Steps p.tables e below (T'.setTop g') t → Steps p.tables e below (T.setTop g) t) (k : Go p e below G T' g') : Go p e below G T g := by
  obtain ⟨s₂, o, h1, h2⟩ := k
  exact ⟨s₂, o, q _ h1, h2⟩
theorem own_met_of {Z : State} {y : MethodName} {bytes : ByteArray} {maxL : Nat} {rt : Option FieldType} {rm : Room} {as : Array Value} {h0 : Heap} {Q : Option Value → Heap → List Loc → Prop} {Ls0 : Array Slot} (hpl : plainFor y = true) (ef : ∀ m, entryFrame m as maxL = mkF m 0 Ls0 [])
    (body : ∀ (p : Program) (e : Env) (s : State) (m : MethodId) (below : List Frame) (meth : Method) (c : Code) (s₁ : State), Stand p l e rm s m as below meth c s₁ [] 0 0 → p.tables.exec = Jvm.exec → c.code = bytes → c.maxLocals = maxL → Z.Warmed39 s.vm → s.vm.findClass y.cls = some m.cls → meth.name = y.name → meth.sig.returnType = rt → meth.locks = false → s₁.heap = h0 →
      Go p e below (FinQ s Q rm.cells rm.slots) s₁ (mkF m 0 Ls0 [])) : Met1 l Z y bytes maxL rt rm as h0 Q := by
  intro ws
  refine MetFree.of_bodySF hpl hisR ?_
  intro p e s m args below meth c s₁ Bd hml0 hP hK
  obtain ⟨rfl, hZ, hh⟩ := hP
  have k := body p e s m below meth c s₁ (Stand.of_body Bd) Bd.exec Bd.bytes hml0 hZ (findClass_of_methodNamed Bd.named) (name_of_methodNamed Bd.named Bd.method).1 Bd.returns Bd.notSynchronized (by rw [← hh, Bd.state]; rfl)
  rw [← ef m] at k
  exact k
theorem own_leave {Q : Option Value → Heap → List Loc → Prop} {kc ks : Nat} {v : Option Value} (X : Stand p l e R s m args below meth c T locs cells slots) (hv : meth.sig.returnType = none → v = none) (hlk : meth.locks = false) (hc : cells ≤ kc) (hs : slots ≤ ks) (hQ : Q v T.heap locs)
    (k : ∀ fs, (∀ (f : JFrame) (acts : List Action), f.method = m → f.locked = none → f.entered = [] → (doReturn e (T.setTop f) acts v).1 = T.setFrames fs) → Steps p.tables e below (T.setTop g) (T.setFrames fs)) : Go p e below (FinQ s Q kc ks) T g := by
  obtain ⟨fs, hr, hrun, hended, hW, hsame⟩ := X.leave (v := v) hv hlk
  exact ⟨_, _, k fs hr, hrun, hended, _, _, rfl, hQ, ⟨_, rfl⟩, hW, hsame.mono hc hs⟩
theorem own_retI {Q : Option Value → Heap → List Loc → Prop} {kc ks : Nat} {z : Int32} (X : Stand p l e R s m args below meth c T locs cells slots) (hx : p.tables.exec = Jvm.exec) (hby : c.code = bs) (hret : meth.sig.returnType = some .int) (hlk : meth.locks = false) (hd : decode bs pc = .ok (.ireturn, 1)) (hc : cells ≤ kc) (hs : slots ≤ ks) (hQ : Q (some (.int z)) T.heap locs) : Go p e below (FinQ s Q kc ks) T (mkF m pc Ls (.int z :: st)) := by
  refine own_leave X (fun q => by rw [hret] at q; cases q) hlk hc hs hQ fun fs hr => ?_
  exact retOut X hx hret rfl (Or.inl ⟨rfl, Or.inl rfl, z, rfl⟩) (hb hby hd) hr
theorem own_retN {Q : Option Value → Heap → List Loc → Prop} {kc ks : Nat} {z z' : Int32} {t : FieldType} (X : Stand p l e R s m args below meth c T locs cells slots) (hx : p.tables.exec = Jvm.exec) (hby : c.code = bs) (hret : meth.sig.returnType = some t) (hlk : meth.locks = false) (ht : t = .boolean ∨ t = .byte ∨ t = .char ∨ t = .short) (hd : decode bs pc = .ok (.ireturn, 1)) (hc : cells ≤ kc) (hs : slots ≤ ks) (hn : nar t z = z') (hQ : Q (some (.int z')) T.heap locs) : Go p e below (FinQ s Q kc ks) T (mkF m pc Ls (.int z :: st)) := by
  subst hn
  refine own_leave X (fun q => by rw [hret] at q; cases q) hlk hc hs hQ fun fs hr => ?_
  exact retN X hx hret ht (hb hby hd) hr
theorem own_retJ {Q : Option Value → Heap → List Loc → Prop} {kc ks : Nat} {z : Int64} (X : Stand p l e R s m args below meth c T locs cells slots) (hx : p.tables.exec = Jvm.exec) (hby : c.code = bs) (hret : meth.sig.returnType = some .long) (hlk : meth.locks = false) (hd : decode bs pc = .ok (.lreturn, 1)) (hc : cells ≤ kc) (hs : slots ≤ ks) (hQ : Q (some (.long z)) T.heap locs) : Go p e below (FinQ s Q kc ks) T (mkF m pc Ls (.long z :: st)) := by
  refine own_leave X (fun q => by rw [hret] at q; cases q) hlk hc hs hQ fun fs hr => ?_
  exact retOut X hx hret rfl (Or.inr (Or.inl ⟨rfl, rfl, z, rfl⟩)) (hb hby hd) hr
theorem own_retA {Q : Option Value → Heap → List Loc → Prop} {kc ks : Nat} {w : Value} {t : FieldType} (X : Stand p l e R s m args below meth c T locs cells slots) (hx : p.tables.exec = Jvm.exec) (hby : c.code = bs) (hret : meth.sig.returnType = some t) (hlk : meth.locks = false) (ht : t.isReference = true) (hw : w.isRef = true) (hn : narrow t w = w) (hd : decode bs pc = .ok (.areturn, 1)) (hc : cells ≤ kc) (hs : slots ≤ ks) (hQ : Q (some w) T.heap locs) : Go p e below (FinQ s Q kc ks) T (mkF m pc Ls (w :: st)) := by
  refine own_leave X (fun q => by rw [hret] at q; cases q) hlk hc hs hQ fun fs hr => ?_
  exact retOut X hx hret hn (Or.inr (Or.inr (Or.inr (Or.inr ⟨rfl, ht, hw⟩)))) (hb hby hd) hr
theorem own_ret {Q : Option Value → Heap → List Loc → Prop} {kc ks : Nat} (X : Stand p l e R s m args below meth c T locs cells slots) (hx : p.tables.exec = Jvm.exec) (hby : c.code = bs) (hret : meth.sig.returnType = none) (hlk : meth.locks = false) (hd : decode bs pc = .ok (.return_, 1)) (hc : cells ≤ kc) (hs : slots ≤ ks) (hQ : Q none T.heap locs) : Go p e below (FinQ s Q kc ks) T (mkF m pc Ls []) := by
  refine own_leave X (fun _ => rfl) hlk hc hs hQ fun fs hr => ?_
  exact X.returnOut hx hret (hb hby hd) hr
theorem own_iload (X : Stand p l e R s m args below meth c T locs cells slots) (hx : p.tables.exec = Jvm.exec) (hby : c.code = bs) {n : Nat} (v : Int32) (hd : decode bs pc = .ok (.iload n, 2)) (hl : Ls[n]? = some (.val (.int v))) (pc' : Nat) (hp : pc + 2 = pc') (k : Go p e below G T (mkF m pc' Ls (.int v :: st))) : Go p e below G T (mkF m pc Ls st) := by
  subst hp
  exact Go.by (fun t q => XS.iload X.here hx rfl (hb hby hd) hl q) k
theorem own_iloadN (X : Stand p l e R s m args below meth c T locs cells slots) (hx : p.tables.exec = Jvm.exec) (hby : c.code = bs) {n : Fin 4} (v : Int32) (hd : decode bs pc = .ok (.iload_n n, 1)) (hl : Ls[n.val]? = some (.val (.int v))) (pc' : Nat) (hp : pc + 1 = pc') (k : Go p e below G T (mkF m pc' Ls (.int v :: st))) : Go p e below G T (mkF m pc Ls st) := by
  subst hp
  exact Go.by (fun t q => XS.iloadN X.here hx rfl (hb hby hd) hl q) k
theorem own_istore (X : Stand p l e R s m args below meth c T locs cells slots) (hx : p.tables.exec = Jvm.exec) (hby : c.code = bs) {n : Nat} {x x' : Int32} (hd : decode bs pc = .ok (.istore n, 2)) (ex : x = x') {l' : Array Slot} (hl : storeLocals Ls n (.int x') = some l') (pc' : Nat) (hp : pc + 2 = pc') (k : Go p e below G T (mkF m pc' l' st)) : Go p e below G T (mkF m pc Ls (.int x :: st)) := by
  subst hp
  subst ex
  exact Go.by (fun t q => XS.istore X.here hx rfl (hb hby hd) rfl hl q) k
theorem own_istoreN (X : Stand p l e R s m args below meth c T locs cells slots) (hx : p.tables.exec = Jvm.exec) (hby : c.code = bs) {n : Fin 4} {x x' : Int32} (hd : decode bs pc = .ok (.istore_n n, 1)) (ex : x = x') {l' : Array Slot} (hl : storeLocals Ls n.val (.int x') = some l') (pc' : Nat) (hp : pc + 1 = pc') (k : Go p e below G T (mkF m pc' l' st)) : Go p e below G T (mkF m pc Ls (.int x :: st)) := by
  subst hp
  subst ex
  exact Go.by (fun t q => XS.istoreN X.here hx rfl (hb hby hd) rfl hl q) k
theorem own_lload (X : Stand p l e R s m args below meth c T locs cells slots) (hx : p.tables.exec = Jvm.exec) (hby : c.code = bs) {n : Nat} (v : Int64) (hd : decode bs pc = .ok (.lload n, 2)) (hl : Ls[n]? = some (.val (.long v))) (pc' : Nat) (hp : pc + 2 = pc') (k : Go p e below G T (mkF m pc' Ls (.long v :: st))) : Go p e below G T (mkF m pc Ls st) := by
  subst hp
  exact Go.by (fun t q => XS.lload X.here hx rfl (hb hby hd) hl q) k
theorem own_lloadN (X : Stand p l e R s m args below meth c T locs cells slots) (hx : p.tables.exec = Jvm.exec) (hby : c.code = bs) {n : Fin 4} (v : Int64) (hd : decode bs pc = .ok (.lload_n n, 1)) (hl : Ls[n.val]? = some (.val (.long v))) (pc' : Nat) (hp : pc + 1 = pc') (k : Go p e below G T (mkF m pc' Ls (.long v :: st))) : Go p e below G T (mkF m pc Ls st) := by
  subst hp
  exact Go.by (fun t q => XS.lloadN X.here hx rfl (hb hby hd) hl q) k
theorem own_lstore (X : Stand p l e R s m args below meth c T locs cells slots) (hx : p.tables.exec = Jvm.exec) (hby : c.code = bs) {n : Nat} {x x' : Int64} (hd : decode bs pc = .ok (.lstore n, 2)) (ex : x = x') {l' : Array Slot} (hl : storeLocals Ls n (.long x') = some l') (pc' : Nat) (hp : pc + 2 = pc') (k : Go p e below G T (mkF m pc' l' st)) : Go p e below G T (mkF m pc Ls (.long x :: st)) := by
  subst hp
  subst ex
  exact Go.by (fun t q => XS.lstore X.here hx rfl (hb hby hd) rfl hl q) k
theorem own_lstoreN (X : Stand p l e R s m args below meth c T locs cells slots) (hx : p.tables.exec = Jvm.exec) (hby : c.code = bs) {n : Fin 4} {x x' : Int64} (hd : decode bs pc = .ok (.lstore_n n, 1)) (ex : x = x') {l' : Array Slot} (hl : storeLocals Ls n.val (.long x') = some l') (pc' : Nat) (hp : pc + 1 = pc') (k : Go p e below G T (mkF m pc' l' st)) : Go p e below G T (mkF m pc Ls (.long x :: st)) := by
  subst hp
  subst ex
  exact Go.by (fun t q => XS.lstoreN X.here hx rfl (hb hby hd) rfl hl q) k
theorem own_aload (X : Stand p l e R s m args below meth c T locs cells slots) (hx : p.tables.exec = Jvm.exec) (hby : c.code = bs) {n : Nat} (v : Value) (hd : decode bs pc = .ok (.aload n, 2)) (hl : Ls[n]? = some (.val v)) (hv : v.isRef = true) (pc' : Nat) (hp : pc + 2 = pc') (k : Go p e below G T (mkF m pc' Ls (v :: st))) : Go p e below G T (mkF m pc Ls st) := by
  subst hp
  exact Go.by (fun t q => XS.aload X.here hx rfl (hb hby hd) hl hv q) k
theorem own_aloadN (X : Stand p l e R s m args below meth c T locs cells slots) (hx : p.tables.exec = Jvm.exec) (hby : c.code = bs) {n : Fin 4} (v : Value) (hd : decode bs pc = .ok (.aload_n n, 1)) (hl : Ls[n.val]? = some (.val v)) (hv : v.isRef = true) (pc' : Nat) (hp : pc + 1 = pc') (k : Go p e below G T (mkF m pc' Ls (v :: st))) : Go p e below G T (mkF m pc Ls st) := by
  subst hp
  exact Go.by (fun t q => XS.aloadN X.here hx rfl (hb hby hd) hl hv q) k
theorem own_astore (X : Stand p l e R s m args below meth c T locs cells slots) (hx : p.tables.exec = Jvm.exec) (hby : c.code = bs) {n : Nat} {x : Value} (hd : decode bs pc = .ok (.astore n, 2)) (hv : x.isRef = true) {l' : Array Slot} (hl : storeLocals Ls n x = some l') (pc' : Nat) (hp : pc + 2 = pc') (k : Go p e below G T (mkF m pc' l' st)) : Go p e below G T (mkF m pc Ls (x :: st)) := by
  subst hp
  exact Go.by (fun t q => XS.astore X.here hx rfl (hb hby hd) rfl hv hl q) k
theorem own_astoreN (X : Stand p l e R s m args below meth c T locs cells slots) (hx : p.tables.exec = Jvm.exec) (hby : c.code = bs) {n : Fin 4} {x : Value} (hd : decode bs pc = .ok (.astore_n n, 1)) (hv : x.isRef = true) {l' : Array Slot} (hl : storeLocals Ls n.val x = some l') (pc' : Nat) (hp : pc + 1 = pc') (k : Go p e below G T (mkF m pc' l' st)) : Go p e below G T (mkF m pc Ls (x :: st)) := by
  subst hp
  exact Go.by (fun t q => XS.astoreN X.here hx rfl (hb hby hd) rfl hv hl q) k
theorem own_iconst (X : Stand p l e R s m args below meth c T locs cells slots) (hx : p.tables.exec = Jvm.exec) (hby : c.code = bs) {i : Int} (v : Int32) (hd : decode bs pc = .ok (.iconst i, 1)) (hv : Int32.ofInt i = v) (pc' : Nat) (hp : pc + 1 = pc') (k : Go p e below G T (mkF m pc' Ls (.int v :: st))) : Go p e below G T (mkF m pc Ls st) := by
  subst hp
  subst hv
  exact Go.by (fun t q => XS.iconst X.here hx rfl (hb hby hd) q) k
theorem own_bipush (X : Stand p l e R s m args below meth c T locs cells slots) (hx : p.tables.exec = Jvm.exec) (hby : c.code = bs) {i : Int} (v : Int32) (hd : decode bs pc = .ok (.bipush i, 2)) (hv : (Int8.ofInt i).toInt32 = v) (pc' : Nat) (hp : pc + 2 = pc') (k : Go p e below G T (mkF m pc' Ls (.int v :: st))) : Go p e below G T (mkF m pc Ls st) := by
  subst hp
  subst hv
  exact Go.by (fun t q => XS.bipush X.here hx rfl (hb hby hd) q) k
theorem own_sipush (X : Stand p l e R s m args below meth c T locs cells slots) (hx : p.tables.exec = Jvm.exec) (hby : c.code = bs) {i : Int} (v : Int32) (hd : decode bs pc = .ok (.sipush i, 3)) (hv : (Int16.ofInt i).toInt32 = v) (pc' : Nat) (hp : pc + 3 = pc') (k : Go p e below G T (mkF m pc' Ls (.int v :: st))) : Go p e below G T (mkF m pc Ls st) := by
  subst hp
  subst hv
  exact Go.by (fun t q => XS.sipush X.here hx rfl (hb hby hd) q) k
theorem own_lconst (X : Stand p l e R s m args below meth c T locs cells slots) (hx : p.tables.exec = Jvm.exec) (hby : c.code = bs) {i : Fin 2} (v : Int64) (hd : decode bs pc = .ok (.lconst i, 1)) (hv : Int64.ofNat i = v) (pc' : Nat) (hp : pc + 1 = pc') (k : Go p e below G T (mkF m pc' Ls (.long v :: st))) : Go p e below G T (mkF m pc Ls st) := by
  subst hp
  subst hv
  exact Go.by (fun t q => XS.lconst X.here hx rfl (hb hby hd) q) k
theorem own_aconstNull (X : Stand p l e R s m args below meth c T locs cells slots) (hx : p.tables.exec = Jvm.exec) (hby : c.code = bs)  (hd : decode bs pc = .ok (.aconst_null, 1))  (pc' : Nat) (hp : pc + 1 = pc') (k : Go p e below G T (mkF m pc' Ls (.null :: st))) : Go p e below G T (mkF m pc Ls st) := by
  subst hp
  exact Go.by (fun t q => XS.aconstNull X.here hx rfl (hb hby hd) q) k
theorem own_iadd (X : Stand p l e R s m args below meth c T locs cells slots) (hx : p.tables.exec = Jvm.exec) (hby : c.code = bs) {x y : Int32} (hd : decode bs pc = .ok (.iadd, 1))  (pc' : Nat) (hp : pc + 1 = pc') (k : Go p e below G T (mkF m pc' Ls (.int (x + y) :: st))) : Go p e below G T (mkF m pc Ls (.int y :: .int x :: st)) := by
  subst hp
  exact Go.by (fun t q => XS.iadd X.here hx rfl (hb hby hd) rfl q) k
theorem own_isub (X : Stand p l e R s m args below meth c T locs cells slots) (hx : p.tables.exec = Jvm.exec) (hby : c.code = bs) {x y : Int32} (hd : decode bs pc = .ok (.isub, 1))  (pc' : Nat) (hp : pc + 1 = pc') (k : Go p e below G T (mkF m pc' Ls (.int (x - y) :: st))) : Go p e below G T (mkF m pc Ls (.int y :: .int x :: st)) := by
  subst hp
  exact Go.by (fun t q => XS.isub X.here hx rfl (hb hby hd) rfl q) k
theorem own_imul (X : Stand p l e R s m args below meth c T locs cells slots) (hx : p.tables.exec = Jvm.exec) (hby : c.code = bs) {x y : Int32} (hd : decode bs pc = .ok (.imul, 1))  (pc' : Nat) (hp : pc + 1 = pc') (k : Go p e below G T (mkF m pc' Ls (.int (x * y) :: st))) : Go p e below G T (mkF m pc Ls (.int y :: .int x :: st)) := by
  subst hp
  exact Go.by (fun t q => XS.imul X.here hx rfl (hb hby hd) rfl q) k
theorem own_iand (X : Stand p l e R s m args below meth c T locs cells slots) (hx : p.tables.exec = Jvm.exec) (hby : c.code = bs) {x y : Int32} (hd : decode bs pc = .ok (.iand, 1))  (pc' : Nat) (hp : pc + 1 = pc') (k : Go p e below G T (mkF m pc' Ls (.int (x &&& y) :: st))) : Go p e below G T (mkF m pc Ls (.int y :: .int x :: st)) := by
  subst hp
  exact Go.by (fun t q => XS.iand X.here hx rfl (hb hby hd) rfl q) k
theorem own_ior (X : Stand p l e R s m args below meth c T locs cells slots) (hx : p.tables.exec = Jvm.exec) (hby : c.code = bs) {x y : Int32} (hd : decode bs pc = .ok (.ior, 1))  (pc' : Nat) (hp : pc + 1 = pc') (k : Go p e below G T (mkF m pc' Ls (.int (x ||| y) :: st))) : Go p e below G T (mkF m pc Ls (.int y :: .int x :: st)) := by
  subst hp
  exact Go.by (fun t q => XS.ior X.here hx rfl (hb hby hd) rfl q) k
theorem own_ixor (X : Stand p l e R s m args below meth c T locs cells slots) (hx : p.tables.exec = Jvm.exec) (hby : c.code = bs) {x y : Int32} (hd : decode bs pc = .ok (.ixor, 1))  (pc' : Nat) (hp : pc + 1 = pc') (k : Go p e below G T (mkF m pc' Ls (.int (x ^^^ y) :: st))) : Go p e below G T (mkF m pc Ls (.int y :: .int x :: st)) := by
  subst hp
  exact Go.by (fun t q => XS.ixor X.here hx rfl (hb hby hd) rfl q) k
theorem own_ishl (X : Stand p l e R s m args below meth c T locs cells slots) (hx : p.tables.exec = Jvm.exec) (hby : c.code = bs) {x y : Int32} (hd : decode bs pc = .ok (.ishl, 1))  (pc' : Nat) (hp : pc + 1 = pc') (k : Go p e below G T (mkF m pc' Ls (.int (x <<< (y &&& 31)) :: st))) : Go p e below G T (mkF m pc Ls (.int y :: .int x :: st)) := by
  subst hp
  exact Go.by (fun t q => XS.ishl X.here hx rfl (hb hby hd) rfl q) k
theorem own_ishr (X : Stand p l e R s m args below meth c T locs cells slots) (hx : p.tables.exec = Jvm.exec) (hby : c.code = bs) {x y : Int32} (hd : decode bs pc = .ok (.ishr, 1))  (pc' : Nat) (hp : pc + 1 = pc') (k : Go p e below G T (mkF m pc' Ls (.int (x >>> (y &&& 31)) :: st))) : Go p e below G T (mkF m pc Ls (.int y :: .int x :: st)) := by
  subst hp
  exact Go.by (fun t q => XS.ishr X.here hx rfl (hb hby hd) rfl q) k
theorem own_iushr (X : Stand p l e R s m args below meth c T locs cells slots) (hx : p.tables.exec = Jvm.exec) (hby : c.code = bs) {x y : Int32} (hd : decode bs pc = .ok (.iushr, 1))  (pc' : Nat) (hp : pc + 1 = pc') (k : Go p e below G T (mkF m pc' Ls (.int ((x.toUInt32 >>> (y &&& 31).toUInt32).toInt32) :: st))) : Go p e below G T (mkF m pc Ls (.int y :: .int x :: st)) := by
  subst hp
  exact Go.by (fun t q => XS.iushr X.here hx rfl (hb hby hd) rfl q) k
theorem own_ladd (X : Stand p l e R s m args below meth c T locs cells slots) (hx : p.tables.exec = Jvm.exec) (hby : c.code = bs) {x y : Int64} (hd : decode bs pc = .ok (.ladd, 1))  (pc' : Nat) (hp : pc + 1 = pc') (k : Go p e below G T (mkF m pc' Ls (.long (x + y) :: st))) : Go p e below G T (mkF m pc Ls (.long y :: .long x :: st)) := by
  subst hp
  exact Go.by (fun t q => XS.ladd X.here hx rfl (hb hby hd) rfl q) k
theorem own_lsub (X : Stand p l e R s m args below meth c T locs cells slots) (hx : p.tables.exec = Jvm.exec) (hby : c.code = bs) {x y : Int64} (hd : decode bs pc = .ok (.lsub, 1))  (pc' : Nat) (hp : pc + 1 = pc') (k : Go p e below G T (mkF m pc' Ls (.long (x - y) :: st))) : Go p e below G T (mkF m pc Ls (.long y :: .long x :: st)) := by
  subst hp
  exact Go.by (fun t q => XS.lsub X.here hx rfl (hb hby hd) rfl q) k
theorem own_lmul (X : Stand p l e R s m args below meth c T locs cells slots) (hx : p.tables.exec = Jvm.exec) (hby : c.code = bs) {x y : Int64} (hd : decode bs pc = .ok (.lmul, 1))  (pc' : Nat) (hp : pc + 1 = pc') (k : Go p e below G T (mkF m pc' Ls (.long (x * y) :: st))) : Go p e below G T (mkF m pc Ls (.long y :: .long x :: st)) := by
  subst hp
  exact Go.by (fun t q => XS.lmul X.here hx rfl (hb hby hd) rfl q) k
theorem own_land (X : Stand p l e R s m args below meth c T locs cells slots) (hx : p.tables.exec = Jvm.exec) (hby : c.code = bs) {x y : Int64} (hd : decode bs pc = .ok (.land, 1))  (pc' : Nat) (hp : pc + 1 = pc') (k : Go p e below G T (mkF m pc' Ls (.long (x &&& y) :: st))) : Go p e below G T (mkF m pc Ls (.long y :: .long x :: st)) := by
  subst hp
  exact Go.by (fun t q => XS.land X.here hx rfl (hb hby hd) rfl q) k
theorem own_lor (X : Stand p l e R s m args below meth c T locs cells slots) (hx : p.tables.exec = Jvm.exec) (hby : c.code = bs) {x y : Int64} (hd : decode bs pc = .ok (.lor, 1))  (pc' : Nat) (hp : pc + 1 = pc') (k : Go p e below G T (mkF m pc' Ls (.long (x ||| y) :: st))) : Go p e below G T (mkF m pc Ls (.long y :: .long x :: st)) := by
  subst hp
  exact Go.by (fun t q => XS.lor X.here hx rfl (hb hby hd) rfl q) k
theorem own_lxor (X : Stand p l e R s m args below meth c T locs cells slots) (hx : p.tables.exec = Jvm.exec) (hby : c.code = bs) {x y : Int64} (hd : decode bs pc = .ok (.lxor, 1))  (pc' : Nat) (hp : pc + 1 = pc') (k : Go p e below G T (mkF m pc' Ls (.long (x ^^^ y) :: st))) : Go p e below G T (mkF m pc Ls (.long y :: .long x :: st)) := by
  subst hp
  exact Go.by (fun t q => XS.lxor X.here hx rfl (hb hby hd) rfl q) k
theorem own_lshl (X : Stand p l e R s m args below meth c T locs cells slots) (hx : p.tables.exec = Jvm.exec) (hby : c.code = bs) {x : Int64} {y : Int32} (hd : decode bs pc = .ok (.lshl, 1))  (pc' : Nat) (hp : pc + 1 = pc') (k : Go p e below G T (mkF m pc' Ls (.long (x <<< (y &&& 0x3f).toInt64) :: st))) : Go p e below G T (mkF m pc Ls (.int y :: .long x :: st)) := by
  subst hp
  exact Go.by (fun t q => XS.lshl X.here hx rfl (hb hby hd) rfl q) k
theorem own_lshr (X : Stand p l e R s m args below meth c T locs cells slots) (hx : p.tables.exec = Jvm.exec) (hby : c.code = bs) {x : Int64} {y : Int32} (hd : decode bs pc = .ok (.lshr, 1))  (pc' : Nat) (hp : pc + 1 = pc') (k : Go p e below G T (mkF m pc' Ls (.long (x >>> (y &&& 0x3f).toInt64) :: st))) : Go p e below G T (mkF m pc Ls (.int y :: .long x :: st)) := by
  subst hp
  exact Go.by (fun t q => XS.lshr X.here hx rfl (hb hby hd) rfl q) k
theorem own_lushr (X : Stand p l e R s m args below meth c T locs cells slots) (hx : p.tables.exec = Jvm.exec) (hby : c.code = bs) {x : Int64} {y : Int32} (hd : decode bs pc = .ok (.lushr, 1))  (pc' : Nat) (hp : pc + 1 = pc') (k : Go p e below G T (mkF m pc' Ls (.long ((x.toUInt64 >>> (y &&& 0x3f).toInt64.toUInt64).toInt64) :: st))) : Go p e below G T (mkF m pc Ls (.int y :: .long x :: st)) := by
  subst hp
  exact Go.by (fun t q => XS.lushr X.here hx rfl (hb hby hd) rfl q) k
theorem own_ineg (X : Stand p l e R s m args below meth c T locs cells slots) (hx : p.tables.exec = Jvm.exec) (hby : c.code = bs) {x : Int32} (hd : decode bs pc = .ok (.ineg, 1))  (pc' : Nat) (hp : pc + 1 = pc') (k : Go p e below G T (mkF m pc' Ls (.int (-x) :: st))) : Go p e below G T (mkF m pc Ls (.int x :: st)) := by
  subst hp
  exact Go.by (fun t q => XS.ineg X.here hx rfl (hb hby hd) rfl q) k
theorem own_lneg (X : Stand p l e R s m args below meth c T locs cells slots) (hx : p.tables.exec = Jvm.exec) (hby : c.code = bs) {x : Int64} (hd : decode bs pc = .ok (.lneg, 1))  (pc' : Nat) (hp : pc + 1 = pc') (k : Go p e below G T (mkF m pc' Ls (.long (-x) :: st))) : Go p e below G T (mkF m pc Ls (.long x :: st)) := by
  subst hp
  exact Go.by (fun t q => XS.lneg X.here hx rfl (hb hby hd) rfl q) k
theorem own_i2l (X : Stand p l e R s m args below meth c T locs cells slots) (hx : p.tables.exec = Jvm.exec) (hby : c.code = bs) {x : Int32} (hd : decode bs pc = .ok (.i2l, 1))  (pc' : Nat) (hp : pc + 1 = pc') (k : Go p e below G T (mkF m pc' Ls (.long (x.toInt64) :: st))) : Go p e below G T (mkF m pc Ls (.int x :: st)) := by
  subst hp
  exact Go.by (fun t q => XS.i2l X.here hx rfl (hb hby hd) rfl q) k
theorem own_l2i (X : Stand p l e R s m args below meth c T locs cells slots) (hx : p.tables.exec = Jvm.exec) (hby : c.code = bs) {x : Int64} (hd : decode bs pc = .ok (.l2i, 1))  (pc' : Nat) (hp : pc + 1 = pc') (k : Go p e below G T (mkF m pc' Ls (.int (x.toInt32) :: st))) : Go p e below G T (mkF m pc Ls (.long x :: st)) := by
  subst hp
  exact Go.by (fun t q => XS.l2i X.here hx rfl (hb hby hd) rfl q) k
theorem own_i2b (X : Stand p l e R s m args below meth c T locs cells slots) (hx : p.tables.exec = Jvm.exec) (hby : c.code = bs) {x : Int32} (hd : decode bs pc = .ok (.i2b, 1))  (pc' : Nat) (hp : pc + 1 = pc') (k : Go p e below G T (mkF m pc' Ls (.int (x.toInt8.toInt32) :: st))) : Go p e below G T (mkF m pc Ls (.int x :: st)) := by
  subst hp
  exact Go.by (fun t q => XS.i2b X.here hx rfl (hb hby hd) rfl q) k
theorem own_i2s (X : Stand p l e R s m args below meth c T locs cells slots) (hx : p.tables.exec = Jvm.exec) (hby : c.code = bs) {x : Int32} (hd : decode bs pc = .ok (.i2s, 1))  (pc' : Nat) (hp : pc + 1 = pc') (k : Go p e below G T (mkF m pc' Ls (.int (x.toInt16.toInt32) :: st))) : Go p e below G T (mkF m pc Ls (.int x :: st)) := by
  subst hp
  exact Go.by (fun t q => XS.i2s X.here hx rfl (hb hby hd) rfl q) k
theorem own_i2c (X : Stand p l e R s m args below meth c T locs cells slots) (hx : p.tables.exec = Jvm.exec) (hby : c.code = bs) {x : Int32} (hd : decode bs pc = .ok (.i2c, 1))  (pc' : Nat) (hp : pc + 1 = pc') (k : Go p e below G T (mkF m pc' Ls (.int (x.toUInt32.toUInt16.toUInt32.toInt32) :: st))) : Go p e below G T (mkF m pc Ls (.int x :: st)) := by
  subst hp
  exact Go.by (fun t q => XS.i2c X.here hx rfl (hb hby hd) rfl q) k
theorem own_idiv (X : Stand p l e R s m args below meth c T locs cells slots) (hx : p.tables.exec = Jvm.exec) (hby : c.code = bs) {x y : Int32} (hd : decode bs pc = .ok (.idiv, 1)) (hy : y ≠ 0) (pc' : Nat) (hp : pc + 1 = pc') (k : Go p e below G T (mkF m pc' Ls (.int (x / y) :: st))) : Go p e below G T (mkF m pc Ls (.int y :: .int x :: st)) := by
  subst hp
  exact Go.by (fun t q => XS.idiv X.here hx rfl (hb hby hd) rfl hy q) k
theorem own_ldiv (X : Stand p l e R s m args below meth c T locs cells slots) (hx : p.tables.exec = Jvm.exec) (hby : c.code = bs) {x y : Int64} (hd : decode bs pc = .ok (.ldiv, 1)) (hy : y ≠ 0) (pc' : Nat) (hp : pc + 1 = pc') (k : Go p e below G T (mkF m pc' Ls (.long (x / y) :: st))) : Go p e below G T (mkF m pc Ls (.long y :: .long x :: st)) := by
  subst hp
  exact Go.by (fun t q => XS.ldiv X.here hx rfl (hb hby hd) rfl hy q) k
theorem own_irem (X : Stand p l e R s m args below meth c T locs cells slots) (hx : p.tables.exec = Jvm.exec) (hby : c.code = bs) {x y : Int32} (hd : decode bs pc = .ok (.irem, 1)) (hy : y ≠ 0) (pc' : Nat) (hp : pc + 1 = pc') (k : Go p e below G T (mkF m pc' Ls (.int (x % y) :: st))) : Go p e below G T (mkF m pc Ls (.int y :: .int x :: st)) := by
  subst hp
  exact Go.by (fun t q => iremM X hx rfl (hb hby hd) rfl hy q) k
theorem own_lrem (X : Stand p l e R s m args below meth c T locs cells slots) (hx : p.tables.exec = Jvm.exec) (hby : c.code = bs) {x y : Int64} (hd : decode bs pc = .ok (.lrem, 1)) (hy : y ≠ 0) (pc' : Nat) (hp : pc + 1 = pc') (k : Go p e below G T (mkF m pc' Ls (.long (x % y) :: st))) : Go p e below G T (mkF m pc Ls (.long y :: .long x :: st)) := by
  subst hp
  rw [← lrem_mod] at k
  exact Go.by (fun t q => XS.lrem X.here hx rfl (hb hby hd) rfl hy q) k
theorem own_iinc (X : Stand p l e R s m args below meth c T locs cells slots) (hx : p.tables.exec = Jvm.exec) (hby : c.code = bs) {n : Nat} {cst : Int} {x x' : Int32} (hd : decode bs pc = .ok (.iinc n cst, 3)) (hl : Ls[n]? = some (.val (.int x))) (ex : x + Int32.ofInt cst = x') {l' : Array Slot} (hl' : storeLocals Ls n (.int x') = some l') (pc' : Nat) (hp : pc + 3 = pc') (k : Go p e below G T (mkF m pc' l' st)) : Go p e below G T (mkF m pc Ls st) := by
  subst hp
  subst ex
  exact Go.by (fun t q => XS.iinc X.here hx rfl (hb hby hd) hl hl' q) k
theorem own_dup (X : Stand p l e R s m args below meth c T locs cells slots) (hx : p.tables.exec = Jvm.exec) (hby : c.code = bs) {x : Value} (hd : decode bs pc = .ok (.dup, 1)) (hc : x.category = 1) (pc' : Nat) (hp : pc + 1 = pc') (k : Go p e below G T (mkF m pc' Ls (x :: x :: st))) : Go p e below G T (mkF m pc Ls (x :: st)) := by
  subst hp
  exact Go.by (fun t q => XS.dup X.here hx rfl (hb hby hd) rfl hc q) k
theorem own_pop (X : Stand p l e R s m args below meth c T locs cells slots) (hx : p.tables.exec = Jvm.exec) (hby : c.code = bs) {x : Value} (hd : decode bs pc = .ok (.pop, 1)) (hc : x.category = 1) (pc' : Nat) (hp : pc + 1 = pc') (k : Go p e below G T (mkF m pc' Ls st)) : Go p e below G T (mkF m pc Ls (x :: st)) := by
  subst hp
  exact Go.by (fun t q => XS.pop X.here hx rfl (hb hby hd) rfl hc q) k
theorem own_dupX1 (X : Stand p l e R s m args below meth c T locs cells slots) (hx : p.tables.exec = Jvm.exec) (hby : c.code = bs) {x y : Value} (hd : decode bs pc = .ok (.dup_x1, 1)) (hc : x.category = 1) (hc2 : y.category = 1) (pc' : Nat) (hp : pc + 1 = pc') (k : Go p e below G T (mkF m pc' Ls (x :: y :: x :: st))) : Go p e below G T (mkF m pc Ls (x :: y :: st)) := by
  subst hp
  exact Go.by (fun t q => XS.dupX1 X.here hx rfl (hb hby hd) rfl hc hc2 q) k
theorem own_dup2 (X : Stand p l e R s m args below meth c T locs cells slots) (hx : p.tables.exec = Jvm.exec) (hby : c.code = bs) {x y : Value} (hd : decode bs pc = .ok (.dup2, 1)) (hc : x.category = 1) (hc2 : y.category = 1) (pc' : Nat) (hp : pc + 1 = pc') (k : Go p e below G T (mkF m pc' Ls (x :: y :: x :: y :: st))) : Go p e below G T (mkF m pc Ls (x :: y :: st)) := by
  subst hp
  exact Go.by (fun t q => XT.dup2 X.here hx rfl (hb hby hd) rfl hc hc2 q) k
theorem own_dup2L (X : Stand p l e R s m args below meth c T locs cells slots) (hx : p.tables.exec = Jvm.exec) (hby : c.code = bs) {x : Int64} (hd : decode bs pc = .ok (.dup2, 1))  (pc' : Nat) (hp : pc + 1 = pc') (k : Go p e below G T (mkF m pc' Ls (.long x :: .long x :: st))) : Go p e below G T (mkF m pc Ls (.long x :: st)) := by
  subst hp
  exact Go.by (fun t q => XT.dup2L X.here hx rfl (hb hby hd) rfl q) k
theorem own_goto (X : Stand p l e R s m args below meth c T locs cells slots) (hx : p.tables.exec = Jvm.exec) (hby : c.code = bs) {o : Int} (hd : decode bs pc = .ok (.goto o, 3)) (pc' : Nat) (hp : 0 ≤ (pc : Int) + o ∧ ((pc : Int) + o).toNat = pc') (k : Go p e below G T (mkF m pc' Ls st)) : Go p e below G T (mkF m pc Ls st) :=
  Go.by (fun t q => XS.goto X.here hx rfl rfl (hb hby hd) hp.1 hp.2 q) k
theorem own_top {v v' : Value} (q : v = v') (k : Go p e below G T (mkF m pc Ls (v' :: st))) : Go p e below G T (mkF m pc Ls (v :: st)) := q ▸ k
theorem own_icmp_eq (X : Stand p l e R s m args below meth c T locs cells slots) (hx : p.tables.exec = Jvm.exec) (hby : c.code = bs) {o : Int} {x y : Int32} (hd : decode bs pc = .ok (.if_icmp .eq o, 3)) (pT pF : Nat) (hp : 0 ≤ (pc : Int) + o ∧ ((pc : Int) + o).toNat = pT) (hpF : pc + 3 = pF) (kT : x = y → Go p e below G T (mkF m pT Ls st)) (kF : ¬ x = y → Go p e below G T (mkF m pF Ls st)) : Go p e below G T (mkF m pc Ls (.int y :: .int x :: st)) := by
  subst hpF
  by_cases q0 : x = y
  · have q := q0
    exact Go.by (fun t r => XS.icmpYes X.here hx rfl rfl (hb hby hd) rfl (teq q).1 hp.1 hp.2 r) (kT q0)
  · have q : ¬ x = y := by first | exact q0 | exact Classical.not_not.mp q0
    exact Go.by (fun t r => XS.icmpNo X.here hx rfl (hb hby hd) rfl (feq q).1 r) (kF q)
theorem own_if_eq (X : Stand p l e R s m args below meth c T locs cells slots) (hx : p.tables.exec = Jvm.exec) (hby : c.code = bs) {o : Int} {x : Int32} (hd : decode bs pc = .ok (.ifCond .eq o, 3)) (pT pF : Nat) (hp : 0 ≤ (pc : Int) + o ∧ ((pc : Int) + o).toNat = pT) (hpF : pc + 3 = pF) (kT : x = (0 : Int32) → Go p e below G T (mkF m pT Ls st)) (kF : ¬ x = (0 : Int32) → Go p e below G T (mkF m pF Ls st)) : Go p e below G T (mkF m pc Ls (.int x :: st)) := by
  subst hpF
  by_cases q0 : x = (0 : Int32)
  · have q := q0
    exact Go.by (fun t r => XS.ifYes X.here hx rfl rfl (hb hby hd) rfl ((if0 _ _).trans (teq q).1) hp.1 hp.2 r) (kT q0)
  · have q : ¬ x = (0 : Int32) := by first | exact q0 | exact Classical.not_not.mp q0
    exact Go.by (fun t r => XS.ifNo X.here hx rfl (hb hby hd) rfl ((if0 _ _).trans (feq q).1) r) (kF q)
theorem own_lcmp_eq (X : Stand p l e R s m args below meth c T locs cells slots) (hx : p.tables.exec = Jvm.exec) (hby : c.code = bs) {o : Int} {x y : Int64} (hd : decode bs pc = .ok (.lcmp, 1)) (hd2 : decode bs (pc + 1) = .ok (.ifCond .eq o, 3)) (pT pF : Nat) (hp : 0 ≤ ((pc + 1 : Nat) : Int) + o ∧ (((pc + 1 : Nat) : Int) + o).toNat = pT) (hpF : pc + 4 = pF) (kT : x = y → Go p e below G T (mkF m pT Ls st)) (kF : ¬ x = y → Go p e below G T (mkF m pF Ls st)) : Go p e below G T (mkF m pc Ls (.long y :: .long x :: st)) := by
  refine Go.by (fun t r => XS.lcmp X.here hx rfl (hb hby hd) rfl r) (g' := mkF m (pc + 1) Ls (.int (lcmpW x y) :: st)) ?_
  refine own_if_eq X hx hby hd2 pT pF hp (by omega) (fun q => kT ?_) (fun q => kF ?_)
  · exact (lw_eq x y).mp q
  · exact fun r => q ((lw_eq x y).mpr r)
theorem own_icmp_ne (X : Stand p l e R s m args below meth c T locs cells slots) (hx : p.tables.exec = Jvm.exec) (hby : c.code = bs) {o : Int} {x y : Int32} (hd : decode bs pc = .ok (.if_icmp .ne o, 3)) (pT pF : Nat) (hp : 0 ≤ (pc : Int) + o ∧ ((pc : Int) + o).toNat = pT) (hpF : pc + 3 = pF) (kT : ¬ x = y → Go p e below G T (mkF m pT Ls st)) (kF : x = y → Go p e below G T (mkF m pF Ls st)) : Go p e below G T (mkF m pc Ls (.int y :: .int x :: st)) := by
  subst hpF
  by_cases q0 : ¬ x = y
  · have q := q0
    exact Go.by (fun t r => XS.icmpYes X.here hx rfl rfl (hb hby hd) rfl (feq q).2 hp.1 hp.2 r) (kT q0)
  · have q : x = y := by first | exact q0 | exact Classical.not_not.mp q0
    exact Go.by (fun t r => XS.icmpNo X.here hx rfl (hb hby hd) rfl (teq q).2 r) (kF q)
theorem own_if_ne (X : Stand p l e R s m args below meth c T locs cells slots) (hx : p.tables.exec = Jvm.exec) (hby : c.code = bs) {o : Int} {x : Int32} (hd : decode bs pc = .ok (.ifCond .ne o, 3)) (pT pF : Nat) (hp : 0 ≤ (pc : Int) + o ∧ ((pc : Int) + o).toNat = pT) (hpF : pc + 3 = pF) (kT : ¬ x = (0 : Int32) → Go p e below G T (mkF m pT Ls st)) (kF : x = (0 : Int32) → Go p e below G T (mkF m pF Ls st)) : Go p e below G T (mkF m pc Ls (.int x :: st)) := by
  subst hpF
  by_cases q0 : ¬ x = (0 : Int32)
  · have q := q0
    exact Go.by (fun t r => XS.ifYes X.here hx rfl rfl (hb hby hd) rfl ((if0 _ _).trans (feq q).2) hp.1 hp.2 r) (kT q0)
  · have q : x = (0 : Int32) := by first | exact q0 | exact Classical.not_not.mp q0
    exact Go.by (fun t r => XS.ifNo X.here hx rfl (hb hby hd) rfl ((if0 _ _).trans (teq q).2) r) (kF q)
theorem own_lcmp_ne (X : Stand p l e R s m args below meth c T locs cells slots) (hx : p.tables.exec = Jvm.exec) (hby : c.code = bs) {o : Int} {x y : Int64} (hd : decode bs pc = .ok (.lcmp, 1)) (hd2 : decode bs (pc + 1) = .ok (.ifCond .ne o, 3)) (pT pF : Nat) (hp : 0 ≤ ((pc + 1 : Nat) : Int) + o ∧ (((pc + 1 : Nat) : Int) + o).toNat = pT) (hpF : pc + 4 = pF) (kT : ¬ x = y → Go p e below G T (mkF m pT Ls st)) (kF : x = y → Go p e below G T (mkF m pF Ls st)) : Go p e below G T (mkF m pc Ls (.long y :: .long x :: st)) := by
  refine Go.by (fun t r => XS.lcmp X.here hx rfl (hb hby hd) rfl r) (g' := mkF m (pc + 1) Ls (.int (lcmpW x y) :: st)) ?_
  refine own_if_ne X hx hby hd2 pT pF hp (by omega) (fun q => kT ?_) (fun q => kF ?_)
  · exact fun r => q ((lw_eq x y).mpr r)
  · exact (lw_eq x y).mp q
theorem own_icmp_lt (X : Stand p l e R s m args below meth c T locs cells slots) (hx : p.tables.exec = Jvm.exec) (hby : c.code = bs) {o : Int} {x y : Int32} (hd : decode bs pc = .ok (.if_icmp .lt o, 3)) (pT pF : Nat) (hp : 0 ≤ (pc : Int) + o ∧ ((pc : Int) + o).toNat = pT) (hpF : pc + 3 = pF) (kT : x < y → Go p e below G T (mkF m pT Ls st)) (kF : ¬ x < y → Go p e below G T (mkF m pF Ls st)) : Go p e below G T (mkF m pc Ls (.int y :: .int x :: st)) := by
  subst hpF
  by_cases q0 : x < y
  · have q := q0
    exact Go.by (fun t r => XS.icmpYes X.here hx rfl rfl (hb hby hd) rfl (tlt q).1 hp.1 hp.2 r) (kT q0)
  · have q : ¬ x < y := by first | exact q0 | exact Classical.not_not.mp q0
    exact Go.by (fun t r => XS.icmpNo X.here hx rfl (hb hby hd) rfl (flt q).1 r) (kF q)
theorem own_if_lt (X : Stand p l e R s m args below meth c T locs cells slots) (hx : p.tables.exec = Jvm.exec) (hby : c.code = bs) {o : Int} {x : Int32} (hd : decode bs pc = .ok (.ifCond .lt o, 3)) (pT pF : Nat) (hp : 0 ≤ (pc : Int) + o ∧ ((pc : Int) + o).toNat = pT) (hpF : pc + 3 = pF) (kT : x < (0 : Int32) → Go p e below G T (mkF m pT Ls st)) (kF : ¬ x < (0 : Int32) → Go p e below G T (mkF m pF Ls st)) : Go p e below G T (mkF m pc Ls (.int x :: st)) := by
  subst hpF
  by_cases q0 : x < (0 : Int32)
  · have q := q0
    exact Go.by (fun t r => XS.ifYes X.here hx rfl rfl (hb hby hd) rfl ((if0 _ _).trans (tlt q).1) hp.1 hp.2 r) (kT q0)
  · have q : ¬ x < (0 : Int32) := by first | exact q0 | exact Classical.not_not.mp q0
    exact Go.by (fun t r => XS.ifNo X.here hx rfl (hb hby hd) rfl ((if0 _ _).trans (flt q).1) r) (kF q)
theorem own_lcmp_lt (X : Stand p l e R s m args below meth c T locs cells slots) (hx : p.tables.exec = Jvm.exec) (hby : c.code = bs) {o : Int} {x y : Int64} (hd : decode bs pc = .ok (.lcmp, 1)) (hd2 : decode bs (pc + 1) = .ok (.ifCond .lt o, 3)) (pT pF : Nat) (hp : 0 ≤ ((pc + 1 : Nat) : Int) + o ∧ (((pc + 1 : Nat) : Int) + o).toNat = pT) (hpF : pc + 4 = pF) (kT : x < y → Go p e below G T (mkF m pT Ls st)) (kF : ¬ x < y → Go p e below G T (mkF m pF Ls st)) : Go p e below G T (mkF m pc Ls (.long y :: .long x :: st)) := by
  refine Go.by (fun t r => XS.lcmp X.here hx rfl (hb hby hd) rfl r) (g' := mkF m (pc + 1) Ls (.int (lcmpW x y) :: st)) ?_
  refine own_if_lt X hx hby hd2 pT pF hp (by omega) (fun q => kT ?_) (fun q => kF ?_)
  · exact (lw_lt x y).mp q
  · exact fun r => q ((lw_lt x y).mpr r)
theorem own_icmp_ge (X : Stand p l e R s m args below meth c T locs cells slots) (hx : p.tables.exec = Jvm.exec) (hby : c.code = bs) {o : Int} {x y : Int32} (hd : decode bs pc = .ok (.if_icmp .ge o, 3)) (pT pF : Nat) (hp : 0 ≤ (pc : Int) + o ∧ ((pc : Int) + o).toNat = pT) (hpF : pc + 3 = pF) (kT : ¬ x < y → Go p e below G T (mkF m pT Ls st)) (kF : x < y → Go p e below G T (mkF m pF Ls st)) : Go p e below G T (mkF m pc Ls (.int y :: .int x :: st)) := by
  subst hpF
  by_cases q0 : ¬ x < y
  · have q := q0
    exact Go.by (fun t r => XS.icmpYes X.here hx rfl rfl (hb hby hd) rfl (flt q).2.1 hp.1 hp.2 r) (kT q0)
  · have q : x < y := by first | exact q0 | exact Classical.not_not.mp q0
    exact Go.by (fun t r => XS.icmpNo X.here hx rfl (hb hby hd) rfl (tlt q).2.1 r) (kF q)
theorem own_if_ge (X : Stand p l e R s m args below meth c T locs cells slots) (hx : p.tables.exec = Jvm.exec) (hby : c.code = bs) {o : Int} {x : Int32} (hd : decode bs pc = .ok (.ifCond .ge o, 3)) (pT pF : Nat) (hp : 0 ≤ (pc : Int) + o ∧ ((pc : Int) + o).toNat = pT) (hpF : pc + 3 = pF) (kT : ¬ x < (0 : Int32) → Go p e below G T (mkF m pT Ls st)) (kF : x < (0 : Int32) → Go p e below G T (mkF m pF Ls st)) : Go p e below G T (mkF m pc Ls (.int x :: st)) := by
  subst hpF
  by_cases q0 : ¬ x < (0 : Int32)
  · have q := q0
    exact Go.by (fun t r => XS.ifYes X.here hx rfl rfl (hb hby hd) rfl ((if0 _ _).trans (flt q).2.1) hp.1 hp.2 r) (kT q0)
  · have q : x < (0 : Int32) := by first | exact q0 | exact Classical.not_not.mp q0
    exact Go.by (fun t r => XS.ifNo X.here hx rfl (hb hby hd) rfl ((if0 _ _).trans (tlt q).2.1) r) (kF q)
theorem own_lcmp_ge (X : Stand p l e R s m args below meth c T locs cells slots) (hx : p.tables.exec = Jvm.exec) (hby : c.code = bs) {o : Int} {x y : Int64} (hd : decode bs pc = .ok (.lcmp, 1)) (hd2 : decode bs (pc + 1) = .ok (.ifCond .ge o, 3)) (pT pF : Nat) (hp : 0 ≤ ((pc + 1 : Nat) : Int) + o ∧ (((pc + 1 : Nat) : Int) + o).toNat = pT) (hpF : pc + 4 = pF) (kT : ¬ x < y → Go p e below G T (mkF m pT Ls st)) (kF : x < y → Go p e below G T (mkF m pF Ls st)) : Go p e below G T (mkF m pc Ls (.long y :: .long x :: st)) := by
  refine Go.by (fun t r => XS.lcmp X.here hx rfl (hb hby hd) rfl r) (g' := mkF m (pc + 1) Ls (.int (lcmpW x y) :: st)) ?_
  refine own_if_ge X hx hby hd2 pT pF hp (by omega) (fun q => kT ?_) (fun q => kF ?_)
  · exact fun r => q ((lw_lt x y).mpr r)
  · exact (lw_lt x y).mp q
theorem own_icmp_gt (X : Stand p l e R s m args below meth c T locs cells slots) (hx : p.tables.exec = Jvm.exec) (hby : c.code = bs) {o : Int} {x y : Int32} (hd : decode bs pc = .ok (.if_icmp .gt o, 3)) (pT pF : Nat) (hp : 0 ≤ (pc : Int) + o ∧ ((pc : Int) + o).toNat = pT) (hpF : pc + 3 = pF) (kT : y < x → Go p e below G T (mkF m pT Ls st)) (kF : ¬ y < x → Go p e below G T (mkF m pF Ls st)) : Go p e below G T (mkF m pc Ls (.int y :: .int x :: st)) := by
  subst hpF
  by_cases q0 : y < x
  · have q := q0
    exact Go.by (fun t r => XS.icmpYes X.here hx rfl rfl (hb hby hd) rfl (tlt q).2.2.1 hp.1 hp.2 r) (kT q0)
  · have q : ¬ y < x := by first | exact q0 | exact Classical.not_not.mp q0
    exact Go.by (fun t r => XS.icmpNo X.here hx rfl (hb hby hd) rfl (flt q).2.2.1 r) (kF q)
theorem own_if_gt (X : Stand p l e R s m args below meth c T locs cells slots) (hx : p.tables.exec = Jvm.exec) (hby : c.code = bs) {o : Int} {x : Int32} (hd : decode bs pc = .ok (.ifCond .gt o, 3)) (pT pF : Nat) (hp : 0 ≤ (pc : Int) + o ∧ ((pc : Int) + o).toNat = pT) (hpF : pc + 3 = pF) (kT : (0 : Int32) < x → Go p e below G T (mkF m pT Ls st)) (kF : ¬ (0 : Int32) < x → Go p e below G T (mkF m pF Ls st)) : Go p e below G T (mkF m pc Ls (.int x :: st)) := by
  subst hpF
  by_cases q0 : (0 : Int32) < x
  · have q := q0
    exact Go.by (fun t r => XS.ifYes X.here hx rfl rfl (hb hby hd) rfl ((if0 _ _).trans (tlt q).2.2.1) hp.1 hp.2 r) (kT q0)
  · have q : ¬ (0 : Int32) < x := by first | exact q0 | exact Classical.not_not.mp q0
    exact Go.by (fun t r => XS.ifNo X.here hx rfl (hb hby hd) rfl ((if0 _ _).trans (flt q).2.2.1) r) (kF q)
theorem own_lcmp_gt (X : Stand p l e R s m args below meth c T locs cells slots) (hx : p.tables.exec = Jvm.exec) (hby : c.code = bs) {o : Int} {x y : Int64} (hd : decode bs pc = .ok (.lcmp, 1)) (hd2 : decode bs (pc + 1) = .ok (.ifCond .gt o, 3)) (pT pF : Nat) (hp : 0 ≤ ((pc + 1 : Nat) : Int) + o ∧ (((pc + 1 : Nat) : Int) + o).toNat = pT) (hpF : pc + 4 = pF) (kT : y < x → Go p e below G T (mkF m pT Ls st)) (kF : ¬ y < x → Go p e below G T (mkF m pF Ls st)) : Go p e below G T (mkF m pc Ls (.long y :: .long x :: st)) := by
  refine Go.by (fun t r => XS.lcmp X.here hx rfl (hb hby hd) rfl r) (g' := mkF m (pc + 1) Ls (.int (lcmpW x y) :: st)) ?_
  refine own_if_gt X hx hby hd2 pT pF hp (by omega) (fun q => kT ?_) (fun q => kF ?_)
  · exact (lw_gt x y).mp q
  · exact fun r => q ((lw_gt x y).mpr r)
theorem own_icmp_le (X : Stand p l e R s m args below meth c T locs cells slots) (hx : p.tables.exec = Jvm.exec) (hby : c.code = bs) {o : Int} {x y : Int32} (hd : decode bs pc = .ok (.if_icmp .le o, 3)) (pT pF : Nat) (hp : 0 ≤ (pc : Int) + o ∧ ((pc : Int) + o).toNat = pT) (hpF : pc + 3 = pF) (kT : ¬ y < x → Go p e below G T (mkF m pT Ls st)) (kF : y < x → Go p e below G T (mkF m pF Ls st)) : Go p e below G T (mkF m pc Ls (.int y :: .int x :: st)) := by
  subst hpF
  by_cases q0 : ¬ y < x
  · have q := q0
    exact Go.by (fun t r => XS.icmpYes X.here hx rfl rfl (hb hby hd) rfl (flt q).2.2.2 hp.1 hp.2 r) (kT q0)
  · have q : y < x := by first | exact q0 | exact Classical.not_not.mp q0
    exact Go.by (fun t r => XS.icmpNo X.here hx rfl (hb hby hd) rfl (tlt q).2.2.2 r) (kF q)
theorem own_if_le (X : Stand p l e R s m args below meth c T locs cells slots) (hx : p.tables.exec = Jvm.exec) (hby : c.code = bs) {o : Int} {x : Int32} (hd : decode bs pc = .ok (.ifCond .le o, 3)) (pT pF : Nat) (hp : 0 ≤ (pc : Int) + o ∧ ((pc : Int) + o).toNat = pT) (hpF : pc + 3 = pF) (kT : ¬ (0 : Int32) < x → Go p e below G T (mkF m pT Ls st)) (kF : (0 : Int32) < x → Go p e below G T (mkF m pF Ls st)) : Go p e below G T (mkF m pc Ls (.int x :: st)) := by
  subst hpF
  by_cases q0 : ¬ (0 : Int32) < x
  · have q := q0
    exact Go.by (fun t r => XS.ifYes X.here hx rfl rfl (hb hby hd) rfl ((if0 _ _).trans (flt q).2.2.2) hp.1 hp.2 r) (kT q0)
  · have q : (0 : Int32) < x := by first | exact q0 | exact Classical.not_not.mp q0
    exact Go.by (fun t r => XS.ifNo X.here hx rfl (hb hby hd) rfl ((if0 _ _).trans (tlt q).2.2.2) r) (kF q)
theorem own_lcmp_le (X : Stand p l e R s m args below meth c T locs cells slots) (hx : p.tables.exec = Jvm.exec) (hby : c.code = bs) {o : Int} {x y : Int64} (hd : decode bs pc = .ok (.lcmp, 1)) (hd2 : decode bs (pc + 1) = .ok (.ifCond .le o, 3)) (pT pF : Nat) (hp : 0 ≤ ((pc + 1 : Nat) : Int) + o ∧ (((pc + 1 : Nat) : Int) + o).toNat = pT) (hpF : pc + 4 = pF) (kT : ¬ y < x → Go p e below G T (mkF m pT Ls st)) (kF : y < x → Go p e below G T (mkF m pF Ls st)) : Go p e below G T (mkF m pc Ls (.long y :: .long x :: st)) := by
  refine Go.by (fun t r => XS.lcmp X.here hx rfl (hb hby hd) rfl r) (g' := mkF m (pc + 1) Ls (.int (lcmpW x y) :: st)) ?_
  refine own_if_le X hx hby hd2 pT pF hp (by omega) (fun q => kT ?_) (fun q => kF ?_)
  · exact fun r => q ((lw_gt x y).mpr r)
  · exact (lw_gt x y).mp q
theorem own_ifnullY (X : Stand p l e R s m args below meth c T locs cells slots) (hx : p.tables.exec = Jvm.exec) (hby : c.code = bs) {o : Int}  (hd : decode bs pc = .ok (.ifnull o, 3)) (pc' : Nat) (hp : 0 ≤ (pc : Int) + o ∧ ((pc : Int) + o).toNat = pc') (k : Go p e below G T (mkF m pc' Ls st)) : Go p e below G T (mkF m pc Ls (.null :: st)) :=
  Go.by (fun t q => XS.ifnullYes X.here hx rfl rfl (hb hby hd) rfl hp.1 hp.2 q) k
theorem own_ifnullN (X : Stand p l e R s m args below meth c T locs cells slots) (hx : p.tables.exec = Jvm.exec) (hby : c.code = bs) {o : Int} {b : Addr} (hd : decode bs pc = .ok (.ifnull o, 3)) (pc' : Nat) (hp : pc + 3 = pc') (k : Go p e below G T (mkF m pc' Ls st)) : Go p e below G T (mkF m pc Ls (.ref b :: st)) := by
  subst hp
  exact Go.by (fun t q => XS.ifnullNo X.here hx rfl (hb hby hd) rfl q) k
theorem own_ifnonnullY (X : Stand p l e R s m args below meth c T locs cells slots) (hx : p.tables.exec = Jvm.exec) (hby : c.code = bs) {o : Int} {b : Addr} (hd : decode bs pc = .ok (.ifnonnull o, 3)) (pc' : Nat) (hp : 0 ≤ (pc : Int) + o ∧ ((pc : Int) + o).toNat = pc') (k : Go p e below G T (mkF m pc' Ls st)) : Go p e below G T (mkF m pc Ls (.ref b :: st)) :=
  Go.by (fun t q => XS.ifnonnullYes X.here hx rfl rfl (hb hby hd) rfl hp.1 hp.2 q) k
theorem own_ifnonnullN (X : Stand p l e R s m args below meth c T locs cells slots) (hx : p.tables.exec = Jvm.exec) (hby : c.code = bs) {o : Int}  (hd : decode bs pc = .ok (.ifnonnull o, 3)) (pc' : Nat) (hp : pc + 3 = pc') (k : Go p e below G T (mkF m pc' Ls st)) : Go p e below G T (mkF m pc Ls (.null :: st)) := by
  subst hp
  exact Go.by (fun t q => XS.ifnonnullNo X.here hx rfl (hb hby hd) rfl q) k
theorem own_ldc (X : Stand p l e R s m args below meth c T locs cells slots) (hx : p.tables.exec = Jvm.exec) (hby : c.code = bs) (hZ : Z.Warmed39 s.vm) {own : String} {idx : Nat} (v : Int32) (hown : s.vm.findClass own = some m.cls) (w : (Jvm.Cond.constant own idx v).before a0 Z = true) (hd : decode bs pc = .ok (.ldc idx, 2)) (pc' : Nat) (hp : pc + 2 = pc') (k : Go p e below G T (mkF m pc' Ls (.int v :: st))) : Go p e below G T (mkF m pc Ls st) := by
  subst hp
  exact Go.by (fun t q => X.ldcInt hx hown (mvT hZ w) (g := mkF m pc Ls st) rfl (hb hby hd) t q) k
theorem own_ldc2 (X : Stand p l e R s m args below meth c T locs cells slots) (hx : p.tables.exec = Jvm.exec) (hby : c.code = bs) (hZ : Z.Warmed39 s.vm) {own : String} {idx : Nat} (v : Int64) (hown : s.vm.findClass own = some m.cls) (w : (Jvm.Cond.constantLong own idx v).before a0 Z = true) (hd : decode bs pc = .ok (.ldc2_w idx, 3)) (pc' : Nat) (hp : pc + 3 = pc') (k : Go p e below G T (mkF m pc' Ls (.long v :: st))) : Go p e below G T (mkF m pc Ls st) := by
  subst hp
  exact Go.by (fun t q => X.ldc2Long hx hown (mvT hZ w) (g := mkF m pc Ls st) rfl (hb hby hd) t q) k
theorem own_callS (X : Stand p l e R s m args below meth c T locs cells slots) (hx : p.tables.exec = Jvm.exec) (hby : c.code = bs) (hZ : Z.Warmed39 s.vm) {own : String} {idx : Nat} {y : MethodName} {yb : ByteArray} {yml : Nat} {yrt : Option FieldType} {rm : Room} {as : Array Value} {Qc : Option Value → Heap → List Loc → Prop} (argsL : List Value) (has : argsL.toArray = as) (hown : s.vm.findClass own = some m.cls) (w1 : (Jvm.Cond.methodLink own idx y).before a0 Z = true) (w2 : (Jvm.Cond.static y).before a0 Z = true) (w3 : (Jvm.Cond.initialized y.cls).before a0 Z = true) (w4 : (Jvm.Cond.code y yb yml yrt).before a0 Z = true) (hy : y.cls ≠ "java/lang/invoke/MethodHandle" ∧ y.cls ≠ "java/lang/invoke/VarHandle") (hd : decode bs pc = .ok (.invokestatic idx, 3)) (hM : Met1 l Z y yb yml yrt rm as h Qc) (eT : T.heap = h) {ps : List FieldType} {pr : Option FieldType} (hpd : parseMethodDescriptor y.desc = some ⟨ps, pr⟩) (hlen : argsL.length = ps.length) (hml : Ls.size = c.maxLocals) (hf : rm.frames + 1 ≤ R.frames) (W : Nat) (hW : (st.map fun v => v.category).sum = W) (hl : W + (yml + 11) + rm.locals ≤ R.locals) (hcl : cells + rm.cells ≤ R.cells) (hsl : slots + rm.slots ≤ R.slots) (pc' : Nat) (hp : pc + 3 = pc') (k : ∀ (T' : State) (L : List Loc) (v : Option Value), Stand p l e R s m args below meth c T' (locs ++ L) (cells + rm.cells) (slots + rm.slots) → Qc v T'.heap L → Go p e below G T' (mkF m pc' Ls (v.toList ++ st))) : Go p e below G T (mkF m pc Ls (argsL.reverse ++ st)) := by
  subst has
  subst hp
  obtain ⟨v, vm₁, ⟨T1, L1, k1, n1⟩, -, X1, ⟨Lc, hQ, l1, y1, z1⟩, st1⟩ := Jvm.LawKit.callS X hx (y := y) hown (mvT hZ w1) (mvT hZ w2) (mvT hZ w3) (mvT hZ w4) hy (backOf (W := W) (hM []) hZ w4 w3 hf hl) (g := mkF m pc Ls (argsL.reverse ++ st)) rfl hml (argsL := argsL) (rest := st) (lenOf hpd hlen) rfl (by show 2 * 0 + _ ≤ _; omega) (hb hby hd) (fun _ _ => ⟨rfl, eT, hcl, hsl⟩)
  dsimp only [Pt.U, Pt.locs, Pt.cells, Pt.slots] at X1 l1 y1 z1 st1 hQ
  subst l1 y1 z1
  exact Go.by (fun t q => st1 t q) (k T1 Lc v X1 hQ)
theorem own_callC (X : Stand p l e R s m args below meth c T locs cells slots) (hx : p.tables.exec = Jvm.exec) (hby : c.code = bs) (hZ : Z.Warmed39 s.vm) {own : String} {idx : Nat} {y : MethodName} {yb : ByteArray} {yml : Nat} {rm : Room} {as : Array Value} {Qc : Option Value → Heap → List Loc → Prop} {a : Addr} (argsL : List Value) (has : (.ref a :: argsL).toArray = as) (hy1 : y.name = "<init>") (hown : s.vm.findClass own = some m.cls) (w1 : (Jvm.Cond.methodLink own idx y).before a0 Z = true) (w2 : (Jvm.Cond.instanceMethod y).before a0 Z = true) (w3 : (Jvm.Cond.initialized y.cls).before a0 Z = true) (w4 : (Jvm.Cond.code y yb yml none).before a0 Z = true) (hy : y.cls ≠ "java/lang/invoke/MethodHandle" ∧ y.cls ≠ "java/lang/invoke/VarHandle") (hd : decode bs pc = .ok (.invokespecial idx, 3)) (hM : Met1 l Z y yb yml none rm as h Qc) (eT : T.heap = h) {ps : List FieldType} {pr : Option FieldType} (hpd : parseMethodDescriptor y.desc = some ⟨ps, pr⟩) (hlen : argsL.length = ps.length) (hml : Ls.size = c.maxLocals) (hf : rm.frames + 1 ≤ R.frames) (W : Nat) (hW : (st.map fun v => v.category).sum = W) (hl : W + (yml + 11) + rm.locals ≤ R.locals) (hcl : cells + rm.cells ≤ R.cells) (hsl : slots + rm.slots ≤ R.slots) (pc' : Nat) (hp : pc + 3 = pc') (k : ∀ (T' : State) (L : List Loc) (v : Option Value), Stand p l e R s m args below meth c T' (locs ++ L) (cells + rm.cells) (slots + rm.slots) → Qc v T'.heap L → Go p e below G T' (mkF m pc' Ls (v.toList ++ st))) : Go p e below G T (mkF m pc Ls (argsL.reverse ++ .ref a :: st)) := by
  subst has
  subst hp
  obtain ⟨v, vm₁, ⟨T1, L1, k1, n1⟩, -, X1, ⟨Lc, hQ, l1, y1, z1⟩, st1⟩ := X.specialBack hx (y := y) hy1 hown (mvT hZ w1) (mvT hZ w2) (mvT hZ w4) hy (backOf (W := W) (hM []) hZ w4 w3 hf hl) (g := mkF m pc Ls (argsL.reverse ++ .ref a :: st)) rfl hml (Steps.refl _) (a := a) (argsL := argsL) (rest := st) (lenOf hpd hlen) rfl (by show 2 * 0 + _ ≤ _; omega) (hb hby hd) (fun _ _ => ⟨rfl, eT, hcl, hsl⟩)
  dsimp only [Pt.U, Pt.locs, Pt.cells, Pt.slots] at X1 l1 y1 z1 st1 hQ
  subst l1 y1 z1
  exact Go.by (fun t q => st1.trans q) (k T1 Lc v X1 hQ)
theorem own_callV (X : Stand p l e R s m args below meth c T locs cells slots) (hx : p.tables.exec = Jvm.exec) (hby : c.code = bs) (hZ : Z.Warmed39 s.vm) {own : String} {idx : Nat} {y : MethodName} {yb : ByteArray} {yml : Nat} {yrt : Option FieldType} {rm : Room} {as : Array Value} {Qc : Option Value → Heap → List Loc → Prop} {a : Addr} {C : String} (argsL : List Value) (has : (.ref a :: argsL).toArray = as) (hown : s.vm.findClass own = some m.cls) (w1 : (Jvm.Cond.methodLink own idx y).before a0 Z = true) (w5 : (Jvm.Cond.declares y).before a0 Z = true) (w6 : (Jvm.Cond.selects C y y).before a0 Z = true) (w2 : (Jvm.Cond.instanceMethod y).before a0 Z = true) (w3 : (Jvm.Cond.initialized y.cls).before a0 Z = true) (w4 : (Jvm.Cond.code y yb yml yrt).before a0 Z = true) (E : Exa Z h a C) (hy : y.cls ≠ "java/lang/invoke/MethodHandle" ∧ y.cls ≠ "java/lang/invoke/VarHandle") (hd : decode bs pc = .ok (.invokevirtual idx, 3)) (hM : Met1 l Z y yb yml yrt rm as h Qc) (eT : T.heap = h) {ps : List FieldType} {pr : Option FieldType} (hpd : parseMethodDescriptor y.desc = some ⟨ps, pr⟩) (hlen : argsL.length = ps.length) (hml : Ls.size = c.maxLocals) (hf : rm.frames + 1 ≤ R.frames) (W : Nat) (hW : (st.map fun v => v.category).sum = W) (hl : W + (yml + 11) + rm.locals ≤ R.locals) (hcl : cells + rm.cells ≤ R.cells) (hsl : slots + rm.slots ≤ R.slots) (pc' : Nat) (hp : pc + 3 = pc') (k : ∀ (T' : State) (L : List Loc) (v : Option Value), Stand p l e R s m args below meth c T' (locs ++ L) (cells + rm.cells) (slots + rm.slots) → Qc v T'.heap L → Go p e below G T' (mkF m pc' Ls (v.toList ++ st))) : Go p e below G T (mkF m pc Ls (argsL.reverse ++ .ref a :: st)) := by
  subst has
  obtain ⟨cq, kq, qa, qb, qc⟩ := isOf hZ eT E
  subst hp
  obtain ⟨v, vm₁, ⟨T1, L1, k1, n1⟩, -, X1, ⟨Lc, hQ, l1, y1, z1⟩, st1⟩ := X.virtualBack hx (y := y) (z := y) hown (mvT hZ w1) (mvT hZ w5) (notFace_of_selects (args := #[]) (mvT hZ w6)) (mvT hZ w6) (mvT hZ w2) hy (backOf (W := W) (hM []) hZ w4 w3 hf hl) qa qc (g := mkF m pc Ls (argsL.reverse ++ .ref a :: st)) rfl hml (Steps.refl _) (argsL := argsL) (rest := st) (lenOf hpd hlen) rfl (by show 2 * 0 + _ ≤ _; omega) (hb hby hd) (fun _ _ => ⟨rfl, eT, hcl, hsl⟩)
  dsimp only [Pt.U, Pt.locs, Pt.cells, Pt.slots] at X1 l1 y1 z1 st1 hQ
  subst l1 y1 z1
  exact Go.by (fun t q => st1.trans q) (k T1 Lc v X1 hQ)
theorem own_getF (X : Stand p l e R s m args below meth c T locs cells slots) (hx : p.tables.exec = Jvm.exec) (hby : c.code = bs) (hZ : Z.Warmed39 s.vm) {own R0 O n d host : String} {idx : Nat} {a : Addr} {v : Value} (hown : s.vm.findClass own = some m.cls) (w : (Jvm.Cond.fieldLink own idx R0 n d).before a0 Z = true ∨ (Jvm.Cond.fieldLinkNest own idx R0 n d host).before a0 Z = true) (via : Via Z R0 O n d) (eT : T.heap = h) (F : Fld Z h a O n d v) (hd : decode bs pc = .ok (.getfield idx, 3)) (pc' : Nat) (hp : pc + 3 = pc') (k : ∀ T', Stand p l e R s m args below meth c T' locs cells slots → T'.heap = h → Go p e below G T' (mkF m pc' Ls (v :: st))) : Go p e below G T (mkF m pc Ls (.ref a :: st)) := by
  subst hp
  obtain ⟨T1, X1, e1, st1⟩ := getF X hx hZ hown w via eT F (g := mkF m pc Ls (.ref a :: st)) rfl rfl (hb hby hd)
  exact Go.by (fun t q => st1 t q) (k T1 X1 e1)
theorem own_putF (X : Stand p l e R s m args below meth c T locs cells slots) (hx : p.tables.exec = Jvm.exec) (hby : c.code = bs) (hZ : Z.Warmed39 s.vm) {own R0 O n d host C : String} {idx kk : Nat} {a : Addr} {v old : Value} {ty : FieldType} (hown : s.vm.findClass own = some m.cls) (w : (Jvm.Cond.fieldLink own idx R0 n d).before a0 Z = true ∨ (Jvm.Cond.fieldLinkNest own idx R0 n d host).before a0 Z = true) (via : Via Z R0 O n d) (eT : T.heap = h) (F : Fld Z h a O n d old) (E : Exa Z h a C) (lw : (Jvm.Cond.lays C O n d).before a0 Z = true ∨ ((Jvm.Cond.laysFinal C O n d).before a0 Z = true ∧ own = O ∧ meth.name = "<init>")) (wi : (Jvm.Cond.instantiable C kk).before a0 Z = true) (hty : parseFieldDescriptor d = some ty) (hn : narrow ty v = v) (hf : fits ty v = true) (hd : decode bs pc = .ok (.putfield idx, 3)) (pc' : Nat) (hp : pc + 3 = pc') (k : ∀ T' h', Stand p l e R s m args below meth c T' (locs ++ [⟨a, Jvm.RoadKit.slotOf Z O n d⟩]) cells slots → T'.heap = h' → Wr h h' a (Jvm.RoadKit.slotOf Z O n d) v → Go p e below G T' (mkF m pc' Ls st)) : Go p e below G T (mkF m pc Ls (v :: .ref a :: st)) := by
  subst hp
  obtain ⟨T1, h1, X1, e1, W1, st1⟩ := putF X hx hZ hown w via eT F E lw wi hty hn hf (g := mkF m pc Ls (v :: .ref a :: st)) rfl rfl (hb hby hd)
  exact Go.by (fun t q => st1 t q) (k T1 h1 X1 e1 W1)
theorem own_new (X : Stand p l e R s m args below meth c T locs cells slots) (hx : p.tables.exec = Jvm.exec) (hby : c.code = bs) (hZ : Z.Warmed39 s.vm) {own C : String} {idx n : Nat} (hown : s.vm.findClass own = some m.cls) (w : (Jvm.Cond.classLink own idx C).before a0 Z = true) (wi : (Jvm.Cond.instantiable C n).before a0 Z = true) (wz : (Jvm.Cond.initialized C).before a0 Z = true) (eT : T.heap = h) (hd : decode bs pc = .ok (.new idx, 3)) (hcl : cells + 1 ≤ R.cells) (hsl : slots + n ≤ R.slots) (pc' : Nat) (hp : pc + 3 = pc') (k : ∀ T' h' (b : Addr), b = h.size → Stand p l e R s m args below meth c T' locs (cells + 1) (slots + n) → T'.heap = h' → Ext h h' → Exa Z h' b C → (∀ {O nm d : String} {ty : FieldType}, Laid Z a0 C O nm d → parseFieldDescriptor d = some ty → Fld Z h' b O nm d (defaultValue ty)) → Go p e below G T' (mkF m pc' Ls (.ref b :: st))) : Go p e below G T (mkF m pc Ls st) := by
  subst hp
  obtain ⟨T1, h1, X1, e1, E1, A1, D1, -, st1⟩ := newO X hx hZ hown w wi wz eT (g := mkF m pc Ls st) rfl (hb hby hd) hcl hsl
  exact Go.by (fun t q => st1 t q) (k T1 h1 _ rfl X1 e1 E1 A1 D1)
theorem own_initO (X : Stand p l e R s m args below meth c T locs cells slots) (hx : p.tables.exec = Jvm.exec) (hby : c.code = bs) (hZ : Z.Warmed39 s.vm) {own : String} {idx : Nat} {a : Addr} (hown : s.vm.findClass own = some m.cls) (w1 : (Jvm.Cond.methodLink own idx Lib.objectInit).before a0 Z = true) (w2 : (Jvm.Cond.instanceMethod Lib.objectInit).before a0 Z = true) (w3 : (Jvm.Cond.code Lib.objectInit ⟨#[0xb1]⟩ 1 none).before a0 Z = true) (eT : T.heap = h) (hml : Ls.size = c.maxLocals) (hd : decode bs pc = .ok (.invokespecial idx, 3)) (hf : 1 ≤ R.frames) (W : Nat) (hW : (st.map fun v => v.category).sum = W) (hl : W + 12 ≤ R.locals) (pc' : Nat) (hp : pc + 3 = pc') (k : ∀ T', Stand p l e R s m args below meth c T' locs cells slots → T'.heap = h → Go p e below G T' (mkF m pc' Ls st)) : Go p e below G T (mkF m pc Ls (.ref a :: st)) := by
  subst hp
  obtain ⟨T1, X1, e1, st1⟩ := initO X hx hZ hown w1 w2 w3 eT (g := mkF m pc Ls (.ref a :: st)) rfl hml rfl (hb hby hd) hf (W := W) (by show 2 * 0 + _ ≤ _; omega) hl
  exact Go.by (fun t q => st1 t q) (k T1 X1 e1)
theorem own_putFN (X : Stand p l e R s m args below meth c T locs cells slots) (hx : p.tables.exec = Jvm.exec) (hby : c.code = bs) (hZ : Z.Warmed39 s.vm) {own R0 O n d C : String} {idx kk : Nat} {a : Addr} {v v' old : Value} {ty : FieldType} (hown : s.vm.findClass own = some m.cls) (w : (Jvm.Cond.fieldLink own idx R0 n d).before a0 Z = true) (via : Via Z R0 O n d) (eT : T.heap = h) (F : Fld Z h a O n d old) (E : Exa Z h a C) (lw : (Jvm.Cond.lays C O n d).before a0 Z = true ∨ ((Jvm.Cond.laysFinal C O n d).before a0 Z = true ∧ own = O ∧ meth.name = "<init>")) (wi : (Jvm.Cond.instantiable C kk).before a0 Z = true) (hty : parseFieldDescriptor d = some ty) (hn : narrow ty v = v') (hf : fits ty v' = true) (hd : decode bs pc = .ok (.putfield idx, 3)) (pc' : Nat) (hp : pc + 3 = pc') (k : ∀ T' h', Stand p l e R s m args below meth c T' (locs ++ [⟨a, Jvm.RoadKit.slotOf Z O n d⟩]) cells slots → T'.heap = h' → Wr h h' a (Jvm.RoadKit.slotOf Z O n d) v' → Go p e below G T' (mkF m pc' Ls st)) : Go p e below G T (mkF m pc Ls (v :: .ref a :: st)) := by
  subst hp
  obtain ⟨T1, h1, X1, e1, W1, st1⟩ := putFN X hx hZ hown w via eT F E lw wi hty hn hf (g := mkF m pc Ls (v :: .ref a :: st)) rfl rfl (hb hby hd)
  exact Go.by (fun t q => st1 t q) (k T1 h1 X1 e1 W1)
theorem own_callP (X : Stand p l e R s m args below meth c T locs cells slots) (hx : p.tables.exec = Jvm.exec) (hby : c.code = bs) (hZ : Z.Warmed39 s.vm) {own : String} {idx : Nat} {y : MethodName} {yb : ByteArray} {yml : Nat} {yrt : Option FieldType} {rm : Room} {as : Array Value} {Qc : Option Value → Heap → List Loc → Prop} {a : Addr} {C : String} (argsL : List Value) (has : (.ref a :: argsL).toArray = as) (hown : s.vm.findClass own = some m.cls) (w1 : (Jvm.Cond.methodLink own idx y).before a0 Z = true) (w2 : (Jvm.Cond.instanceMethod y).before a0 Z = true) {kk : Nat} (w6 : (Jvm.Cond.instantiable y.cls kk).before a0 Z = true) (w7 : (Jvm.Cond.privateMethod y).before a0 Z = true) (w3 : (Jvm.Cond.initialized y.cls).before a0 Z = true) (w4 : (Jvm.Cond.code y yb yml yrt).before a0 Z = true) (E : Exa Z h a C) (hy : y.cls ≠ "java/lang/invoke/MethodHandle" ∧ y.cls ≠ "java/lang/invoke/VarHandle") (hd : decode bs pc = .ok (.invokevirtual idx, 3)) (hM : Met1 l Z y yb yml yrt rm as h Qc) (eT : T.heap = h) {ps : List FieldType} {pr : Option FieldType} (hpd : parseMethodDescriptor y.desc = some ⟨ps, pr⟩) (hlen : argsL.length = ps.length) (hml : Ls.size = c.maxLocals) (hf : rm.frames + 1 ≤ R.frames) (W : Nat) (hW : (st.map fun v => v.category).sum = W) (hl : W + (yml + 11) + rm.locals ≤ R.locals) (hcl : cells + rm.cells ≤ R.cells) (hsl : slots + rm.slots ≤ R.slots) (pc' : Nat) (hp : pc + 3 = pc') (k : ∀ (T' : State) (L : List Loc) (v : Option Value), Stand p l e R s m args below meth c T' (locs ++ L) (cells + rm.cells) (slots + rm.slots) → Qc v T'.heap L → Go p e below G T' (mkF m pc' Ls (v.toList ++ st))) : Go p e below G T (mkF m pc Ls (argsL.reverse ++ .ref a :: st)) := by
  subst has
  obtain ⟨cq, q1, q2⟩ := E.cell
  have pv := Cond.privateMethod_at (mvP hZ w7 (args := #[]))
  have sel : (Jvm.Cond.selects y.cls y y).before args s = true := by
    obtain ⟨c1, k1, r1, r2, -, r3, -, -⟩ := Cond.instantiable_spec (mvT (args := args) hZ w6)
    exact selects_self_of_private r1 r2 (Bool.or_eq_false_iff.mp r3).1 pv (mvT hZ w2) hy
  subst hp
  obtain ⟨v, vm₁, ⟨T1, L1, k1, n1⟩, -, X1, ⟨Lc, hQ, l1, y1, z1⟩, st1⟩ := X.privateBack hx (y := y) hown (mvT hZ w1) (mvT hZ w2) sel pv (mvT hZ w4) hy (backOf (W := W) (hM []) hZ w4 w3 hf hl) (g := mkF m pc Ls (argsL.reverse ++ .ref a :: st)) rfl hml (Steps.refl _) (a := a) (by rw [eT]; exact q1) q2 (argsL := argsL) (rest := st) (lenOf hpd hlen) rfl (by show 2 * 0 + _ ≤ _; omega) (hb hby hd) (fun _ _ => ⟨rfl, eT, hcl, hsl⟩)
  dsimp only [Pt.U, Pt.locs, Pt.cells, Pt.slots] at X1 l1 y1 z1 st1 hQ
  subst l1 y1 z1
  exact Go.by (fun t q => st1.trans q) (k T1 Lc v X1 hQ)
theorem own_instY (X : Stand p l e R s m args below meth c T locs cells slots) (hx : p.tables.exec = Jvm.exec) (hby : c.code = bs) (hZ : Z.Warmed39 s.vm) {own K : String} {idx : Nat} {a : Addr} (hown : s.vm.findClass own = some m.cls) (w : (Jvm.Cond.classLink own idx K).before a0 Z = true) (eT : T.heap = h) (F : Ins Z h a K true) (hd : decode bs pc = .ok (.instanceof idx, 3)) (pc' : Nat) (hp : pc + 3 = pc') (k : ∀ T', Stand p l e R s m args below meth c T' locs cells slots → T'.heap = h → Go p e below G T' (mkF m pc' Ls (.int 1 :: st))) : Go p e below G T (mkF m pc Ls (.ref a :: st)) := by
  subst hp
  obtain ⟨T1, X1, e1, st1⟩ := instY X hx hZ hown w eT F (g := mkF m pc Ls (.ref a :: st)) rfl rfl (hb hby hd)
  exact Go.by (fun t q => st1 t q) (k T1 X1 e1)
theorem own_instNo (X : Stand p l e R s m args below meth c T locs cells slots) (hx : p.tables.exec = Jvm.exec) (hby : c.code = bs) (hZ : Z.Warmed39 s.vm) {own K : String} {idx : Nat} {a : Addr} (hown : s.vm.findClass own = some m.cls) (w : (Jvm.Cond.classLink own idx K).before a0 Z = true) (eT : T.heap = h) {C : String} (E : Exa Z h a C) (F : ∃ c t, Z.vm.findClass C = some c ∧ Z.vm.findClass K = some t ∧ Z.vm.assignable c t = false) (hd : decode bs pc = .ok (.instanceof idx, 3)) (pc' : Nat) (hp : pc + 3 = pc') (k : ∀ T', Stand p l e R s m args below meth c T' locs cells slots → T'.heap = h → Go p e below G T' (mkF m pc' Ls (.int 0 :: st))) : Go p e below G T (mkF m pc Ls (.ref a :: st)) := by
  subst hp
  obtain ⟨T1, X1, e1, st1⟩ := instNo X hx hZ hown w eT E F (g := mkF m pc Ls (.ref a :: st)) rfl rfl (hb hby hd)
  exact Go.by (fun t q => st1 t q) (k T1 X1 e1)
theorem own_castY (X : Stand p l e R s m args below meth c T locs cells slots) (hx : p.tables.exec = Jvm.exec) (hby : c.code = bs) (hZ : Z.Warmed39 s.vm) {own K : String} {idx : Nat} {a : Addr} (hown : s.vm.findClass own = some m.cls) (w : (Jvm.Cond.classLink own idx K).before a0 Z = true) (eT : T.heap = h) (F : Ins Z h a K true) (hd : decode bs pc = .ok (.checkcast idx, 3)) (pc' : Nat) (hp : pc + 3 = pc') (k : ∀ T', Stand p l e R s m args below meth c T' locs cells slots → T'.heap = h → Go p e below G T' (mkF m pc' Ls (.ref a :: st))) : Go p e below G T (mkF m pc Ls (.ref a :: st)) := by
  subst hp
  obtain ⟨T1, X1, e1, st1⟩ := castY X hx hZ hown w eT F (g := mkF m pc Ls (.ref a :: st)) rfl rfl (hb hby hd)
  exact Go.by (fun t q => st1 t q) (k T1 X1 e1)
theorem own_instNull (X : Stand p l e R s m args below meth c T locs cells slots) (hx : p.tables.exec = Jvm.exec) (hby : c.code = bs) {idx : Nat} (hd : decode bs pc = .ok (.instanceof idx, 3)) (pc' : Nat) (hp : pc + 3 = pc') (k : Go p e below G T (mkF m pc' Ls (.int 0 :: st))) : Go p e below G T (mkF m pc Ls (.null :: st)) := by
  subst hp
  exact Go.by (fun t q => X.instanceofNull hx (g := mkF m pc Ls (.null :: st)) rfl rfl (hb hby hd) t q) k
theorem own_castNull (X : Stand p l e R s m args below meth c T locs cells slots) (hx : p.tables.exec = Jvm.exec) (hby : c.code = bs) {idx : Nat} (hd : decode bs pc = .ok (.checkcast idx, 3)) (pc' : Nat) (hp : pc + 3 = pc') (k : Go p e below G T (mkF m pc' Ls (.null :: st))) : Go p e below G T (mkF m pc Ls (.null :: st)) := by
  subst hp
  exact Go.by (fun t q => X.checkcastNull hx (g := mkF m pc Ls (.null :: st)) rfl rfl (hb hby hd) t q) k
theorem own_acmp (X : Stand p l e R s m args below meth c T locs cells slots) (hx : p.tables.exec = Jvm.exec) (hby : c.code = bs) {cd : ACond} {o : Int} {x y : Value} (same : Bool) (hd : decode bs pc = .ok (.if_acmp cd o, 3)) (h1 : x.isRef = true) (h2 : y.isRef = true) (hq : decide (x = y) = same) (ho : 0 ≤ (pc : Int) + o) (pc' : Nat) (hp : pc' = if acV cd same = true then ((pc : Int) + o).toNat else pc + 3) (k : Go p e below G T (mkF m pc' Ls st)) : Go p e below G T (mkF m pc Ls (y :: x :: st)) :=
  Go.by (fun t q => Jvm.RoadKit.acmp (g := mkF m pc Ls (y :: x :: st)) X hx rfl h1 h2 (pc0 := pc) (pc' := pc') (same := same) rfl (hb hby hd) rfl hq ho hp q) k
theorem own_getS (X : Stand p l e R s m args below meth c T locs cells slots) (hx : p.tables.exec = Jvm.exec) (hby : c.code = bs) (hZ : Z.Warmed39 s.vm) {own R0 O n d host : String} {idx : Nat} {v : Value} (hown : s.vm.findClass own = some m.cls) (w : (Jvm.Cond.fieldLink own idx R0 n d).before a0 Z = true ∨ (Jvm.Cond.fieldLinkNest own idx R0 n d host).before a0 Z = true) (via : Via Z R0 O n d) (eT : T.heap = h) (F : Sta Z h O n d v) (hd : decode bs pc = .ok (.getstatic idx, 3)) (pc' : Nat) (hp : pc + 3 = pc') (k : ∀ T', Stand p l e R s m args below meth c T' locs cells slots → T'.heap = h → Go p e below G T' (mkF m pc' Ls (v :: st))) : Go p e below G T (mkF m pc Ls st) := by
  subst hp
  obtain ⟨T1, X1, e1, st1⟩ := getS2 X hx hZ hown w via eT F (g := mkF m pc Ls st) rfl (hb hby hd)
  exact Go.by (fun t q => st1 t q) (k T1 X1 e1)
/-- an array of n places that hold what f says -/
def Afn (Z : State) (h : Heap) (a : Addr) (ty : FieldType) (n : Nat) (f : Nat → Value) : Prop := ∃ cl : Cell, Arr Z h a cl ty ∧ cl.slots.size = n ∧ ∀ i, i < n → cl.slots[i]? = some (f i) ∧ fits ty (f i) = true
def upd (f : Nat → Value) (i : Nat) (v : Value) : Nat → Value := fun j => if j = i then v else f j
theorem Afn.lt {a : Addr} {ty : FieldType} {n : Nat} {f : Nat → Value} (F : Afn Z h a ty n f) : a < h.size := by obtain ⟨cl, A, -⟩ := F; exact A.lt
theorem Afn.ext {h' : Heap} {a : Addr} {ty : FieldType} {n : Nat} {f : Nat → Value} (F : Afn Z h a ty n f) (E : Ext h h') : Afn Z h' a ty n f := by obtain ⟨cl, A, r⟩ := F; exact ⟨cl, A.ext E, r⟩
theorem Afn.other {h' : Heap} {a b : Addr} {sl : Nat} {v : Value} {ty : FieldType} {n : Nat} {f : Nat → Value} (F : Afn Z h b ty n f) (W : Wr h h' a sl v) (q : b ≠ a) : Afn Z h' b ty n f := by obtain ⟨cl, A, r⟩ := F; exact ⟨cl, A.other W q, r⟩
theorem Afn.keep {h' : Heap} {a : Addr} {ws : List Addr} {ty : FieldType} {n : Nat} {f : Nat → Value} (F : Afn Z h a ty n f) (K : Keep h h' ws) (q : a ∉ ws) : Afn Z h' a ty n f := by obtain ⟨cl, A, r⟩ := F; exact ⟨cl, ⟨K.2.1 a cl A.1 q, A.2⟩, r⟩
theorem Afn.to {a : Addr} {ty : FieldType} {n : Nat} {f f' : Nat → Value} (F : Afn Z h a ty n f) (q : ∀ i, i < n → f i = f' i) : Afn Z h a ty n f' := by obtain ⟨cl, A, S, H⟩ := F; exact ⟨cl, A, S, fun i hi => q i hi ▸ H i hi⟩
theorem Afn.new {a : Addr} {k : ClassId} {ty : FieldType} {z : Int32} {n : Nat} (A : Arr Z h a (newA k ty z) ty) (q : z.toNatClampNeg = n) : Afn Z h a ty n (fun _ => defaultValue ty) := by
  refine ⟨_, A, by rw [sz_new]; exact q, fun i hi => ⟨?_, by cases ty <;> rfl⟩⟩
  subst q
  show (Array.replicate z.toNatClampNeg (defaultValue ty))[i]? = _
  rw [Array.getElem?_replicate, if_pos hi]
theorem Afn.set {h' : Heap} {a : Addr} {ty : FieldType} {n i : Nat} {v : Value} {f : Nat → Value} (F : Afn Z h a ty n f) (W : Wr h h' a i v) (hi : i < n) (hv : fits ty v = true) : Afn Z h' a ty n (upd f i v) := by
  obtain ⟨cl, A, S, H⟩ := F
  refine ⟨cl.setSlot i v, A.same W, by rw [sz_set]; exact S, fun j hj => ?_⟩
  unfold upd
  by_cases q : j = i
  · subst q
    rw [if_pos rfl]
    refine ⟨?_, hv⟩
    show (cl.slots.setIfInBounds j v)[j]? = some v
    rw [Array.getElem?_setIfInBounds_self_of_lt (by rw [S]; exact hj)]
  · rw [if_neg q]
    refine ⟨?_, (H j hj).2⟩
    rw [← (H j hj).1]
    exact Array.getElem?_setIfInBounds_ne (Ne.symm q)
theorem own_in {j : Int32} {n : Nat} (h0 : 0 ≤ j.toInt) (h1 : j.toInt < n) : ¬ (j < 0 ∨ n ≤ j.toNatClampNeg) := by
  simp only [Int32.lt_iff_toInt_lt, Int32.toNatClampNeg, Int32.reduceToInt]; omega
/-- an array of ints (bytes, chars, shorts): n places that hold what g says -/
def Afi (Z : State) (h : Heap) (a : Addr) (ty : FieldType) (n : Nat) (g : Nat → Int32) : Prop := Afn Z h a ty n (fun i => .int (g i))
def updI (g : Nat → Int32) (i : Nat) (v : Int32) : Nat → Int32 := fun j => if j = i then v else g j
theorem Afi.lt {a : Addr} {ty : FieldType} {n : Nat} {g : Nat → Int32} (F : Afi Z h a ty n g) : a < h.size := Afn.lt F
theorem Afi.ext {h' : Heap} {a : Addr} {ty : FieldType} {n : Nat} {g : Nat → Int32} (F : Afi Z h a ty n g) (E : Ext h h') : Afi Z h' a ty n g := Afn.ext F E
theorem Afi.other {h' : Heap} {a b : Addr} {sl : Nat} {v : Value} {ty : FieldType} {n : Nat} {g : Nat → Int32} (F : Afi Z h b ty n g) (W : Wr h h' a sl v) (q : b ≠ a) : Afi Z h' b ty n g := Afn.other F W q
theorem Afi.keep {h' : Heap} {a : Addr} {ws : List Addr} {ty : FieldType} {n : Nat} {g : Nat → Int32} (F : Afi Z h a ty n g) (K : Keep h h' ws) (q : a ∉ ws) : Afi Z h' a ty n g := Afn.keep F K q
theorem Afi.to {a : Addr} {ty : FieldType} {n : Nat} {g g' : Nat → Int32} (F : Afi Z h a ty n g) (q : ∀ i, i < n → g i = g' i) : Afi Z h a ty n g' := Afn.to F fun i hi => congrArg Value.int (q i hi)
theorem Afi.set {h' : Heap} {a : Addr} {ty : FieldType} {n i : Nat} {v : Int32} {g : Nat → Int32} (F : Afi Z h a ty n g) (W : Wr h h' a i (.int v)) (hi : i < n) (hv : fits ty (.int v) = true) : Afi Z h' a ty n (updI g i v) :=
  (Afn.set F W hi hv).to fun j _ => by
    unfold upd updI
    by_cases q : j = i
    · rw [if_pos q, if_pos q]
    · rw [if_neg q, if_neg q]
theorem own_iaload (X : Stand p l e R s m args below meth c T locs cells slots) (hx : p.tables.exec = Jvm.exec) (hby : c.code = bs) (hZ : Z.Warmed39 s.vm) {a : Addr} {j : Int32} {n : Nat} {g : Nat → Int32} (v : Int32) (eT : T.heap = h) (F : Afi Z h a .int n g) (hj : ¬ (j < 0 ∨ n ≤ j.toNatClampNeg)) (hv : g j.toNatClampNeg = v) (hd : decode bs pc = .ok (.iaload, 1)) (pc' : Nat) (hp : pc + 1 = pc') (k : Go p e below G T (mkF m pc' Ls (.int v :: st))) : Go p e below G T (mkF m pc Ls (.int j :: .ref a :: st)) := by
  subst hp
  subst hv
  obtain ⟨cl, A, S, H⟩ := F
  subst S
  exact Go.by (fun t q => X.iaload hx (j := j) (v := .int (g j.toNatClampNeg)) (by rw [eT]; exact A.1) (State.isArrayOf_alike hZ.alike A.2.1) A.2.2 hj (H _ (Nat.lt_of_not_le fun q => hj (Or.inr q))).1 (g := mkF m pc Ls (.int j :: .ref a :: st)) rfl rfl (hb hby hd) t q) k
theorem own_baload (X : Stand p l e R s m args below meth c T locs cells slots) (hx : p.tables.exec = Jvm.exec) (hby : c.code = bs) (hZ : Z.Warmed39 s.vm) {a : Addr} {j : Int32} {n : Nat} {g : Nat → Int32} (v : Int32) (eT : T.heap = h) (F : Afi Z h a .byte n g) (hj : ¬ (j < 0 ∨ n ≤ j.toNatClampNeg)) (hv : g j.toNatClampNeg = v) (hd : decode bs pc = .ok (.baload, 1)) (pc' : Nat) (hp : pc + 1 = pc') (k : Go p e below G T (mkF m pc' Ls (.int v :: st))) : Go p e below G T (mkF m pc Ls (.int j :: .ref a :: st)) := by
  subst hp
  subst hv
  obtain ⟨cl, A, S, H⟩ := F
  subst S
  exact Go.by (fun t q => X.baloadBytes hx (j := j) (v := .int (g j.toNatClampNeg)) (by rw [eT]; exact A.1) (State.isArrayOf_alike hZ.alike A.2.1) A.2.2 hj (H _ (Nat.lt_of_not_le fun q => hj (Or.inr q))).1 (g := mkF m pc Ls (.int j :: .ref a :: st)) rfl rfl (hb hby hd) t q) k
theorem own_caload (X : Stand p l e R s m args below meth c T locs cells slots) (hx : p.tables.exec = Jvm.exec) (hby : c.code = bs) (hZ : Z.Warmed39 s.vm) {a : Addr} {j : Int32} {n : Nat} {g : Nat → Int32} (v : Int32) (eT : T.heap = h) (F : Afi Z h a .char n g) (hj : ¬ (j < 0 ∨ n ≤ j.toNatClampNeg)) (hv : g j.toNatClampNeg = v) (hd : decode bs pc = .ok (.caload, 1)) (pc' : Nat) (hp : pc + 1 = pc') (k : Go p e below G T (mkF m pc' Ls (.int v :: st))) : Go p e below G T (mkF m pc Ls (.int j :: .ref a :: st)) := by
  subst hp
  subst hv
  obtain ⟨cl, A, S, H⟩ := F
  subst S
  exact Go.by (fun t q => X.caload hx (j := j) (v := .int (g j.toNatClampNeg)) (by rw [eT]; exact A.1) (State.isArrayOf_alike hZ.alike A.2.1) A.2.2 hj (H _ (Nat.lt_of_not_le fun q => hj (Or.inr q))).1 (g := mkF m pc Ls (.int j :: .ref a :: st)) rfl rfl (hb hby hd) t q) k
theorem own_saload (X : Stand p l e R s m args below meth c T locs cells slots) (hx : p.tables.exec = Jvm.exec) (hby : c.code = bs) (hZ : Z.Warmed39 s.vm) {a : Addr} {j : Int32} {n : Nat} {g : Nat → Int32} (v : Int32) (eT : T.heap = h) (F : Afi Z h a .short n g) (hj : ¬ (j < 0 ∨ n ≤ j.toNatClampNeg)) (hv : g j.toNatClampNeg = v) (hd : decode bs pc = .ok (.saload, 1)) (pc' : Nat) (hp : pc + 1 = pc') (k : Go p e below G T (mkF m pc' Ls (.int v :: st))) : Go p e below G T (mkF m pc Ls (.int j :: .ref a :: st)) := by
  subst hp
  subst hv
  obtain ⟨cl, A, S, H⟩ := F
  subst S
  exact Go.by (fun t q => X.saload hx (j := j) (v := .int (g j.toNatClampNeg)) (by rw [eT]; exact A.1) (State.isArrayOf_alike hZ.alike A.2.1) A.2.2 hj (H _ (Nat.lt_of_not_le fun q => hj (Or.inr q))).1 (g := mkF m pc Ls (.int j :: .ref a :: st)) rfl rfl (hb hby hd) t q) k
theorem own_aaload (X : Stand p l e R s m args below meth c T locs cells slots) (hx : p.tables.exec = Jvm.exec) (hby : c.code = bs) (hZ : Z.Warmed39 s.vm) {a : Addr} {j : Int32} {n : Nat} {ty : FieldType} {f : Nat → Value} (v : Value) (eT : T.heap = h) (F : Afn Z h a ty n f) (hty : ty.isReference = true) (hj : ¬ (j < 0 ∨ n ≤ j.toNatClampNeg)) (hv : f j.toNatClampNeg = v) (hd : decode bs pc = .ok (.aaload, 1)) (pc' : Nat) (hp : pc + 1 = pc') (k : Go p e below G T (mkF m pc' Ls (v :: st))) : Go p e below G T (mkF m pc Ls (.int j :: .ref a :: st)) := by
  subst hp
  subst hv
  obtain ⟨cl, A, S, H⟩ := F
  subst S
  exact Go.by (fun t q => X.aaload hx (j := j) (v := f j.toNatClampNeg) (by rw [eT]; exact A.1) (State.isArrayOf_alike hZ.alike A.2.1) hty A.2.2 hj (H _ (Nat.lt_of_not_le fun q => hj (Or.inr q))).1 (g := mkF m pc Ls (.int j :: .ref a :: st)) rfl rfl (hb hby hd) t q) k
theorem own_arraylength (X : Stand p l e R s m args below meth c T locs cells slots) (hx : p.tables.exec = Jvm.exec) (hby : c.code = bs) (hZ : Z.Warmed39 s.vm) {a : Addr} {ty : FieldType} {n : Nat} {f : Nat → Value} (z : Int32) (eT : T.heap = h) (F : Afn Z h a ty n f) (hz : n.toInt32 = z) (hd : decode bs pc = .ok (.arraylength, 1)) (pc' : Nat) (hp : pc + 1 = pc') (k : Go p e below G T (mkF m pc' Ls (.int z :: st))) : Go p e below G T (mkF m pc Ls (.ref a :: st)) := by
  subst hp
  subst hz
  obtain ⟨cl, A, S, H⟩ := F
  subst S
  exact Go.by (fun t q => X.arraylength hx (by rw [eT]; exact A.1) (State.isArrayOf_alike hZ.alike A.2.1) (g := mkF m pc Ls (.ref a :: st)) rfl rfl (hb hby hd) t q) k
theorem own_iastore (X : Stand p l e R s m args below meth c T locs cells slots) (hx : p.tables.exec = Jvm.exec) (hby : c.code = bs) (hZ : Z.Warmed39 s.vm) {a : Addr} {j x : Int32} {n : Nat} {g : Nat → Int32} (eT : T.heap = h) (F : Afi Z h a .int n g) (hj : ¬ (j < 0 ∨ n ≤ j.toNatClampNeg)) (hd : decode bs pc = .ok (.iastore, 1)) (pc' : Nat) (hp : pc + 1 = pc') (k : ∀ T' h', Stand p l e R s m args below meth c T' (locs ++ [⟨a, j.toNatClampNeg⟩]) cells slots → T'.heap = h' → Wr h h' a j.toNatClampNeg (.int x) → Afi Z h' a .int n (updI g j.toNatClampNeg x) → Go p e below G T' (mkF m pc' Ls st)) : Go p e below G T (mkF m pc Ls (.int x :: .int j :: .ref a :: st)) := by
  subst hp
  have F0 := F
  obtain ⟨cl, A, S, H⟩ := F
  obtain ⟨T1, h1, X1, e1, W1, st1⟩ := stI X hx hZ eT A (j := j) (x := x) (by rw [S]; exact hj) (g := mkF m pc Ls (.int x :: .int j :: .ref a :: st)) rfl rfl (hb hby hd)
  exact Go.by (fun t q => st1 t q) (k T1 h1 X1 e1 W1 (F0.set W1 (Nat.lt_of_not_le fun q => hj (Or.inr q)) rfl))
theorem own_bastore (X : Stand p l e R s m args below meth c T locs cells slots) (hx : p.tables.exec = Jvm.exec) (hby : c.code = bs) (hZ : Z.Warmed39 s.vm) {a : Addr} {j x : Int32} {n : Nat} {g : Nat → Int32} (eT : T.heap = h) (F : Afi Z h a .byte n g) (hj : ¬ (j < 0 ∨ n ≤ j.toNatClampNeg)) (hd : decode bs pc = .ok (.bastore, 1)) (pc' : Nat) (hp : pc + 1 = pc') (k : ∀ T' h', Stand p l e R s m args below meth c T' (locs ++ [⟨a, j.toNatClampNeg⟩]) cells slots → T'.heap = h' → Wr h h' a j.toNatClampNeg (.int (nar .byte x)) → Afi Z h' a .byte n (updI g j.toNatClampNeg (nar .byte x)) → Go p e below G T' (mkF m pc' Ls st)) : Go p e below G T (mkF m pc Ls (.int x :: .int j :: .ref a :: st)) := by
  subst hp
  have F0 := F
  obtain ⟨cl, A, S, H⟩ := F
  obtain ⟨T1, h1, X1, e1, W1, st1⟩ := stB X hx hZ eT A (j := j) (x := x) (by rw [S]; exact hj) (g := mkF m pc Ls (.int x :: .int j :: .ref a :: st)) rfl rfl (hb hby hd)
  exact Go.by (fun t q => st1 t q) (k T1 h1 X1 e1 W1 (F0.set W1 (Nat.lt_of_not_le fun q => hj (Or.inr q)) (fits_nar_byte x)))
theorem own_castore (X : Stand p l e R s m args below meth c T locs cells slots) (hx : p.tables.exec = Jvm.exec) (hby : c.code = bs) (hZ : Z.Warmed39 s.vm) {a : Addr} {j x : Int32} {n : Nat} {g : Nat → Int32} (eT : T.heap = h) (F : Afi Z h a .char n g) (hj : ¬ (j < 0 ∨ n ≤ j.toNatClampNeg)) (hd : decode bs pc = .ok (.castore, 1)) (pc' : Nat) (hp : pc + 1 = pc') (k : ∀ T' h', Stand p l e R s m args below meth c T' (locs ++ [⟨a, j.toNatClampNeg⟩]) cells slots → T'.heap = h' → Wr h h' a j.toNatClampNeg (.int (nar .char x)) → Afi Z h' a .char n (updI g j.toNatClampNeg (nar .char x)) → Go p e below G T' (mkF m pc' Ls st)) : Go p e below G T (mkF m pc Ls (.int x :: .int j :: .ref a :: st)) := by
  subst hp
  have F0 := F
  obtain ⟨cl, A, S, H⟩ := F
  obtain ⟨T1, h1, X1, e1, W1, st1⟩ := stC X hx hZ eT A (j := j) (x := x) (by rw [S]; exact hj) (g := mkF m pc Ls (.int x :: .int j :: .ref a :: st)) rfl rfl (hb hby hd)
  exact Go.by (fun t q => st1 t q) (k T1 h1 X1 e1 W1 (F0.set W1 (Nat.lt_of_not_le fun q => hj (Or.inr q)) (fits_nar_char x)))
theorem own_sastore (X : Stand p l e R s m args below meth c T locs cells slots) (hx : p.tables.exec = Jvm.exec) (hby : c.code = bs) (hZ : Z.Warmed39 s.vm) {a : Addr} {j x : Int32} {n : Nat} {g : Nat → Int32} (eT : T.heap = h) (F : Afi Z h a .short n g) (hj : ¬ (j < 0 ∨ n ≤ j.toNatClampNeg)) (hd : decode bs pc = .ok (.sastore, 1)) (pc' : Nat) (hp : pc + 1 = pc') (k : ∀ T' h', Stand p l e R s m args below meth c T' (locs ++ [⟨a, j.toNatClampNeg⟩]) cells slots → T'.heap = h' → Wr h h' a j.toNatClampNeg (.int (nar .short x)) → Afi Z h' a .short n (updI g j.toNatClampNeg (nar .short x)) → Go p e below G T' (mkF m pc' Ls st)) : Go p e below G T (mkF m pc Ls (.int x :: .int j :: .ref a :: st)) := by
  subst hp
  have F0 := F
  obtain ⟨cl, A, S, H⟩ := F
  obtain ⟨T1, h1, X1, e1, W1, st1⟩ := stS X hx hZ eT A (j := j) (x := x) (by rw [S]; exact hj) (g := mkF m pc Ls (.int x :: .int j :: .ref a :: st)) rfl rfl (hb hby hd)
  exact Go.by (fun t q => st1 t q) (k T1 h1 X1 e1 W1 (F0.set W1 (Nat.lt_of_not_le fun q => hj (Or.inr q)) (fits_nar_short x)))
theorem own_aastore (X : Stand p l e R s m args below meth c T locs cells slots) (hx : p.tables.exec = Jvm.exec) (hby : c.code = bs) (hZ : Z.Warmed39 s.vm) {a : Addr} {j : Int32} {v : Value} {n : Nat} {ty : FieldType} {f : Nat → Value} (eT : T.heap = h) (F : Afn Z h a ty n f) (hj : ¬ (j < 0 ∨ n ≤ j.toNatClampNeg)) (hty : ty.isReference = true) (hfv : fits ty v = true) (So : Sto Z h a v) (hd : decode bs pc = .ok (.aastore, 1)) (pc' : Nat) (hp : pc + 1 = pc') (k : ∀ T' h', Stand p l e R s m args below meth c T' (locs ++ [⟨a, j.toNatClampNeg⟩]) cells slots → T'.heap = h' → Wr h h' a j.toNatClampNeg v → Afn Z h' a ty n (upd f j.toNatClampNeg v) → Go p e below G T' (mkF m pc' Ls st)) : Go p e below G T (mkF m pc Ls (v :: .int j :: .ref a :: st)) := by
  subst hp
  have F0 := F
  obtain ⟨cl, A, S, H⟩ := F
  obtain ⟨T1, h1, X1, e1, W1, st1⟩ := stR X hx hZ eT A (j := j) (by rw [S]; exact hj) hty So (g := mkF m pc Ls (v :: .int j :: .ref a :: st)) rfl rfl (hb hby hd)
  exact Go.by (fun t q => st1 t q) (k T1 h1 X1 e1 W1 (F0.set W1 (Nat.lt_of_not_le fun q => hj (Or.inr q)) hfv))
theorem own_newarray (X : Stand p l e R s m args below meth c T locs cells slots) (hx : p.tables.exec = Jvm.exec) (hby : c.code = bs) (hZ : Z.Warmed39 s.vm) {aty : ArrayType} {z : Int32} {n cap : Nat} {ad : String} (w : (Jvm.Cond.arrayClass (newarray.typeOf aty)).before a0 Z = true) (eT : T.heap = h) (hd : decode bs pc = .ok (.newarray aty, 2)) (hz : ¬ z < 0) (hn : z.toNatClampNeg = n) (hcap : n ≤ cap) (hb8 : cap * 8 ≤ 536870912) (hcl : cells + 1 ≤ R.cells) (hsl : slots + cap ≤ R.slots) (had : "[" ++ (newarray.typeOf aty).toString = ad) (pc' : Nat) (hp : pc + 2 = pc') (k : ∀ T' h' (b : Addr), b = h.size → Stand p l e R s m args below meth c T' locs (cells + 1) (slots + cap) → T'.heap = h' → Ext h h' → Afn Z h' b (newarray.typeOf aty) n (fun _ => defaultValue (newarray.typeOf aty)) → Exa Z h' b ad → Go p e below G T' (mkF m pc' Ls (.ref b :: st))) : Go p e below G T (mkF m pc Ls (.int z :: st)) := by
  subst hp
  obtain ⟨T1, h1, cA, X1, e1, E1, A1, Ex1, st1⟩ := newPE X hx hZ w eT (g := mkF m pc Ls (.int z :: st)) rfl (hb hby hd) rfl hz (cap := cap) (by rw [hn]; exact hcap) hb8 hcl hsl had
  exact Go.by (fun t q => st1 t q) (k T1 h1 _ rfl X1 e1 E1 (Afn.new A1 hn) Ex1)
theorem own_anewarray (X : Stand p l e R s m args below meth c T locs cells slots) (hx : p.tables.exec = Jvm.exec) (hby : c.code = bs) (hZ : Z.Warmed39 s.vm) {own C : String} {idx : Nat} {z : Int32} {n cap : Nat} {ad : String} (hown : s.vm.findClass own = some m.cls) (w1 : (Jvm.Cond.classLink own idx C).before a0 Z = true) (w2 : (Jvm.Cond.arrayOver (.object C)).before a0 Z = true) (eT : T.heap = h) (hd : decode bs pc = .ok (.anewarray idx, 3)) (hz : ¬ z < 0) (hn : z.toNatClampNeg = n) (hcap : n ≤ cap) (hb8 : cap * 8 ≤ 536870912) (hcl : cells + 1 ≤ R.cells) (hsl : slots + cap ≤ R.slots) (had : "[" ++ (FieldType.object C).toString = ad) (pc' : Nat) (hp : pc + 3 = pc') (k : ∀ T' h' (b : Addr) cA, b = h.size → Stand p l e R s m args below meth c T' locs (cells + 1) (slots + cap) → T'.heap = h' → Ext h h' → Afn Z h' b (.object C) n (fun _ => .null) → Exa Z h' b ad → Arr Z h' b (newA cA (.object C) z) (.object C) → Ovr Z cA C → Go p e below G T' (mkF m pc' Ls (.ref b :: st))) : Go p e below G T (mkF m pc Ls (.int z :: st)) := by
  subst hp
  obtain ⟨T1, h1, cA, X1, e1, E1, A1, Ex1, O1, st1⟩ := newRE X hx hZ hown w1 w2 eT (g := mkF m pc Ls (.int z :: st)) rfl (hb hby hd) rfl hz (cap := cap) (by rw [hn]; exact hcap) hb8 hcl hsl had
  exact Go.by (fun t q => st1 t q) (k T1 h1 _ cA rfl X1 e1 E1 (Afn.new A1 hn) Ex1 A1 O1)
theorem own_lremV (x y : Int64) : 0 ≤ x.toInt → 0 < y.toInt → 0 ≤ (x % y).toInt ∧ (x % y).toInt < y.toInt := by
  intro h1 h2
  rw [Int64.toInt_mod, (tr x.toInt y.toInt).1 h1]
  exact ⟨Int.emod_nonneg _ (by omega), Int.emod_lt_of_pos _ h2⟩
theorem own_NSroot {O K : String} {n : Nat} (w : (Jvm.Cond.noSuperclass O).before a0 Z = true) (wk : (Jvm.Cond.instantiable K n).before a0 Z = true) (hn : O ≠ K) : NS Z O K := by
  obtain ⟨c, k, h1, h2, h3, -, -⟩ := Cond.noSuperclass_spec w
  obtain ⟨t, k2, g1, -⟩ := Cond.instantiable_spec wk
  have ne := ids_ne h1 g1 hn
  refine ⟨c, t, h1, g1, fun fuel => ?_⟩
  cases fuel with
  | zero => rfl
  | succ f => simp [Vm.isSubclassAux, ne, h2, h3]
theorem own_NSno {C S K : String} {n : Nat} (w : (Jvm.Cond.superclass C S).before a0 Z = true) (wk : (Jvm.Cond.instantiable K n).before a0 Z = true) (nn : NS Z C K) (hn : C ≠ K) : ∃ c t, Z.vm.findClass C = some c ∧ Z.vm.findClass K = some t ∧ Z.vm.assignable c t = false := by
  obtain ⟨c, t, h0, g0, n3⟩ := nn
  obtain ⟨p, k, kp, h1, h2, h3, h4, h5, -, h7⟩ := Cond.superclass_spec h0 w
  obtain ⟨t', k', g1, g2, g5, g6, -, -⟩ := Cond.instantiable_spec wk
  cases g0.symm.trans g1
  have ne := ids_ne h0 g0 hn
  have g7 : k'.isInterface = false := (Bool.or_eq_false_iff.mp g6).1
  refine ⟨c, t, h0, g0, ?_⟩
  show Z.vm.assignableAux (255 + 1) c t = false
  simp [Vm.assignableAux, ne, h2, g2, h5, g5, g7, Vm.isSubclass, n3]
theorem own_ext0 {h0 : Heap} (K : Keep h0 h []) : Ext h0 h := ⟨K.1, fun a c q => K.2.1 a c q nin0⟩
/-- an array of references over the class C takes objects of C -/
def Orr (Z : State) (h : Heap) (b : Addr) (C : String) : Prop := ∃ (c : Cell) (cA : ClassId), Arr Z h b c (.object C) ∧ c.cls = cA ∧ Ovr Z cA C
theorem Orr.lt {b : Addr} {C : String} (F : Orr Z h b C) : b < h.size := by obtain ⟨c, cA, A, -⟩ := F; exact A.lt
theorem Orr.ext {h' : Heap} {b : Addr} {C : String} (F : Orr Z h b C) (E : Ext h h') : Orr Z h' b C := by obtain ⟨c, cA, A, r⟩ := F; exact ⟨c, cA, A.ext E, r⟩
theorem Orr.wr {h' : Heap} {a b : Addr} {C : String} {sl : Nat} {v : Value} (F : Orr Z h b C) (W : Wr h h' a sl v) : Orr Z h' b C := by
  obtain ⟨c, cA, A, q, O⟩ := F
  by_cases e : b = a
  · subst e; exact ⟨_, cA, A.same W, q, O⟩
  · exact ⟨c, cA, A.other W e, q, O⟩
theorem Orr.sto {b y : Addr} {C : String} (F : Orr Z h b C) (I : Ins Z h y C true) : Sto Z h b (.ref y) := by
  obtain ⟨c, cA, A, q, O⟩ := F
  exact Sto.ofV A q O I
theorem own_clone (X : Stand p l e R s m args below meth c T locs cells slots) (hx : p.tables.exec = Jvm.exec) (hby : c.code = bs) (hZ : Z.Warmed39 s.vm) {own ad : String} {idx : Nat} {a : Addr} {ty : FieldType} {n cap : Nat} {g : Nat → Int32} (hown : s.vm.findClass own = some m.cls) (w1 : (Jvm.Cond.methodLink own idx ⟨ad, "clone", "()Ljava/lang/Object;"⟩).before a0 Z = true) (w2 : (Jvm.Cond.sameMethod ad "java/lang/Object" "clone" "()Ljava/lang/Object;").before a0 Z = true) (w3 : (Jvm.Cond.native ⟨"java/lang/Object", "clone", "()Ljava/lang/Object;"⟩).before a0 Z = true)
    (w4 : (Jvm.Cond.instanceMethod ⟨"java/lang/Object", "clone", "()Ljava/lang/Object;"⟩).before a0 Z = true) (w5 : (Jvm.Cond.selects ad ⟨ad, "clone", "()Ljava/lang/Object;"⟩ ⟨"java/lang/Object", "clone", "()Ljava/lang/Object;"⟩).before a0 Z = true) (w6 : (Jvm.Cond.castable ad "java/lang/Cloneable").before a0 Z = true)
    (eT : T.heap = h) (F : Afi Z h a ty n g) (E : Exa Z h a ad) (hml : Ls.size = c.maxLocals) (hd : decode bs pc = .ok (.invokevirtual idx, 3)) (hf : 1 ≤ R.frames) (W : Nat) (hW : (st.map fun v => v.category).sum = W) (hl : W + 14 ≤ R.locals) (hcap : n ≤ cap) (hcl : cells + 1 ≤ R.cells) (hsl : slots + cap ≤ R.slots) (pc' : Nat) (hp : pc + 3 = pc')
    (k : ∀ T' h' (b : Addr), b = h.size → Stand p l e R s m args below meth c T' locs (cells + 1) (slots + cap) → T'.heap = h' → Ext h h' → Afi Z h' b ty n g → Exa Z h' b ad → Go p e below G T' (mkF m pc' Ls (.ref b :: st))) : Go p e below G T (mkF m pc Ls (.ref a :: st)) := by
  subst hp
  obtain ⟨cl, A, S, H⟩ := F
  have FC : FitC Z cl := fitC_of A fun i hi v hv => by rw [(H i (S ▸ hi)).1] at hv; cases hv; exact (H i (S ▸ hi)).2
  obtain ⟨T1, h1, X1, e1, E1, A1, Ex1, st1⟩ := cloneA X hx hZ hown w1 w2 w3 w4 w5 w6 eT A E FC (g := mkF m pc Ls (.ref a :: st)) rfl hml rfl (hb hby hd) hf (W := W) (by show 2 * 0 + _ ≤ _; omega) hl (cap := cap) (by rw [S]; exact hcap) hcl hsl
  exact Go.by (fun t q => st1 t q) (k T1 h1 _ rfl X1 e1 E1 ⟨_, A1, S, H⟩ Ex1)
theorem own_fld_start {t : Term} {C n d : String} {k : Int32} {a : Addr} (ev : t.eval args Z none [] Z = some (.ref a)) (hh : (Jvm.Cond.eq (.field t C n d) (.int k)).value args Z none Z [] = some true) : Fld Z Z.heap a C n d (.int k) := by
  obtain ⟨x, y, h1, h2, h3, h4⟩ := cmp_v (Or.inl hh)
  have h2' : y = .int k := (Option.some.inj h2).symm
  subst h2'
  obtain ⟨z, rfl⟩ := h4
  have q : z = k := by
    simp only [Cond.value, h1, h2] at hh
    exact of_decide_eq_true (Option.some.inj hh)
  subst q
  rw [fld_at ev] at h1
  exact Fld.start h1
end OwnGo

theorem d1_0 : decode prog_59_method_1_code 0 = .ok (.aload_n 0, 1) := by decide +kernel
theorem d1_1 : decode prog_59_method_1_code 1 = .ok (.invokespecial 1, 3) := by decide +kernel
theorem d1_4 : decode prog_59_method_1_code 4 = .ok (.aload_n 0, 1) := by decide +kernel
theorem d1_5 : decode prog_59_method_1_code 5 = .ok (.iload_n 1, 1) := by decide +kernel
theorem d1_6 : decode prog_59_method_1_code 6 = .ok (.putfield 7, 3) := by decide +kernel
theorem d1_9 : decode prog_59_method_1_code 9 = .ok (.aload_n 0, 1) := by decide +kernel
theorem d1_10 : decode prog_59_method_1_code 10 = .ok (.iload_n 2, 1) := by decide +kernel
theorem d1_11 : decode prog_59_method_1_code 11 = .ok (.putfield 13, 3) := by decide +kernel
theorem d1_14 : decode prog_59_method_1_code 14 = .ok (.return_, 1) := by decide +kernel
theorem pn_1 : plainName "com/example/rank_by_likelihood/rankbylikelihood/model/DocumentStatistics" = true := by first | (simp [plainName, overriddenIn]; done) | decide +kernel
theorem d6_0 : decode jdk_18_method_1_code 0 = .ok (.aload_n 0, 1) := by decide +kernel
theorem d6_1 : decode jdk_18_method_1_code 1 = .ok (.invokespecial 1, 3) := by decide +kernel
theorem d6_4 : decode jdk_18_method_1_code 4 = .ok (.return_, 1) := by decide +kernel
theorem pn_6 : plainName "java/lang/Number" = true := by first | (simp [plainName, overriddenIn]; done) | decide +kernel
theorem d5_0 : decode jdk_33_method_23_code 0 = .ok (.aload_n 0, 1) := by decide +kernel
theorem d5_1 : decode jdk_33_method_23_code 1 = .ok (.invokespecial 202, 3) := by decide +kernel
theorem d5_4 : decode jdk_33_method_23_code 4 = .ok (.aload_n 0, 1) := by decide +kernel
theorem d5_5 : decode jdk_33_method_23_code 5 = .ok (.iload_n 1, 1) := by decide +kernel
theorem d5_6 : decode jdk_33_method_23_code 6 = .ok (.putfield 205, 3) := by decide +kernel
theorem d5_9 : decode jdk_33_method_23_code 9 = .ok (.return_, 1) := by decide +kernel
theorem pn_5 : plainName "java/lang/Integer" = true := by first | (simp [plainName, overriddenIn]; done) | decide +kernel
theorem pd_0 : parseMethodDescriptor "()V" = some ⟨[], none⟩ := by decide +kernel
theorem d4_0 : decode jdk_33_method_22_code 0 = .ok (.iload_n 0, 1) := by decide +kernel
theorem d4_1 : decode jdk_33_method_22_code 1 = .ok (.bipush (-128), 2) := by decide +kernel
theorem d4_3 : decode jdk_33_method_22_code 3 = .ok (.if_icmp .lt 20, 3) := by decide +kernel
theorem d4_6 : decode jdk_33_method_22_code 6 = .ok (.iload_n 0, 1) := by decide +kernel
theorem d4_7 : decode jdk_33_method_22_code 7 = .ok (.getstatic 191, 3) := by decide +kernel
theorem d4_10 : decode jdk_33_method_22_code 10 = .ok (.if_icmp .gt 13, 3) := by decide +kernel
theorem d4_13 : decode jdk_33_method_22_code 13 = .ok (.getstatic 195, 3) := by decide +kernel
theorem d4_16 : decode jdk_33_method_22_code 16 = .ok (.iload_n 0, 1) := by decide +kernel
theorem d4_17 : decode jdk_33_method_22_code 17 = .ok (.sipush 128, 3) := by decide +kernel
theorem d4_20 : decode jdk_33_method_22_code 20 = .ok (.iadd, 1) := by decide +kernel
theorem d4_21 : decode jdk_33_method_22_code 21 = .ok (.aaload, 1) := by decide +kernel
theorem d4_22 : decode jdk_33_method_22_code 22 = .ok (.areturn, 1) := by decide +kernel
theorem d4_23 : decode jdk_33_method_22_code 23 = .ok (.new 1, 3) := by decide +kernel
theorem d4_26 : decode jdk_33_method_22_code 26 = .ok (.dup, 1) := by decide +kernel
theorem d4_27 : decode jdk_33_method_22_code 27 = .ok (.iload_n 0, 1) := by decide +kernel
theorem d4_28 : decode jdk_33_method_22_code 28 = .ok (.invokespecial 199, 3) := by decide +kernel
theorem d4_31 : decode jdk_33_method_22_code 31 = .ok (.areturn, 1) := by decide +kernel
theorem pd_2 : parseMethodDescriptor "(I)V" = some ⟨[.int], none⟩ := by decide +kernel
theorem d3_0 : decode prog_59_method_4_code 0 = .ok (.aload_n 1, 1) := by decide +kernel
theorem d3_1 : decode prog_59_method_4_code 1 = .ok (.instanceof 8, 3) := by decide +kernel
theorem d3_4 : decode prog_59_method_4_code 4 = .ok (.ifCond .eq 35, 3) := by decide +kernel
theorem d3_7 : decode prog_59_method_4_code 7 = .ok (.aload_n 1, 1) := by decide +kernel
theorem d3_8 : decode prog_59_method_4_code 8 = .ok (.checkcast 8, 3) := by decide +kernel
theorem d3_11 : decode prog_59_method_4_code 11 = .ok (.getfield 7, 3) := by decide +kernel
theorem d3_14 : decode prog_59_method_4_code 14 = .ok (.aload_n 0, 1) := by decide +kernel
theorem d3_15 : decode prog_59_method_4_code 15 = .ok (.getfield 7, 3) := by decide +kernel
theorem d3_18 : decode prog_59_method_4_code 18 = .ok (.if_icmp .ne 21, 3) := by decide +kernel
theorem d3_21 : decode prog_59_method_4_code 21 = .ok (.aload_n 1, 1) := by decide +kernel
theorem d3_22 : decode prog_59_method_4_code 22 = .ok (.checkcast 8, 3) := by decide +kernel
theorem d3_25 : decode prog_59_method_4_code 25 = .ok (.getfield 13, 3) := by decide +kernel
theorem d3_28 : decode prog_59_method_4_code 28 = .ok (.aload_n 0, 1) := by decide +kernel
theorem d3_29 : decode prog_59_method_4_code 29 = .ok (.getfield 13, 3) := by decide +kernel
theorem d3_32 : decode prog_59_method_4_code 32 = .ok (.if_icmp .ne 7, 3) := by decide +kernel
theorem d3_35 : decode prog_59_method_4_code 35 = .ok (.iconst 1, 1) := by decide +kernel
theorem d3_36 : decode prog_59_method_4_code 36 = .ok (.goto 4, 3) := by decide +kernel
theorem d3_39 : decode prog_59_method_4_code 39 = .ok (.iconst 0, 1) := by decide +kernel
theorem d3_40 : decode prog_59_method_4_code 40 = .ok (.ireturn, 1) := by decide +kernel
theorem pn_0 : plainName "com/example/rank_by_likelihood/rankbylikelihood/model/DocumentStatisticsEqualsPinLaw" = true := by first | (simp [plainName, overriddenIn]; done) | decide +kernel
theorem pd_3 : parseMethodDescriptor "(II)V" = some ⟨[.int, .int], none⟩ := by decide +kernel
theorem pd_4 : parseMethodDescriptor "(Ljava/lang/Object;)Z" = some ⟨[(.object "java/lang/Object")], some .boolean⟩ := by decide +kernel
theorem pd_1 : parseMethodDescriptor "(I)Ljava/lang/Integer;" = some ⟨[.int], some (.object "java/lang/Integer")⟩ := by decide +kernel
theorem ef_1 (a1 : Addr) (p2 : Int32) (p3 : Int32) (m : MethodId) : entryFrame m #[(.ref a1), (.int p2), (.int p3)] 3 = mkF m 0 #[.val (.ref a1), .val (.int p2), .val (.int p3)] [] := by first | (simp [entryFrame, mkF, argsToLocals, Value.category]; done) | rfl
def Q1 (Z : State) (a1 : Addr) (p2 : Int32) (p3 : Int32) (w_length_a1 : Int32) (w_distinctTerms_a1 : Int32) (h0 : Heap) (n0 : Nat) (v : Option Value) (h : Heap) (L : List Loc) : Prop := v = none ∧ Fr n0 L ∧ Keep h0 h [a1] ∧ Exa Z h a1 "com/example/rank_by_likelihood/rankbylikelihood/model/DocumentStatistics" ∧ Fld Z h a1 "com/example/rank_by_likelihood/rankbylikelihood/model/DocumentStatistics" "length" "I" (.int p2) ∧ Fld Z h a1 "com/example/rank_by_likelihood/rankbylikelihood/model/DocumentStatistics" "distinctTerms" "I" (.int p3)
set_option maxRecDepth 65536 in
set_option maxHeartbeats 40000000 in
theorem rm1 (l : Launch) (Z : State) (a0 : Array Value) (hw : ∀ d ∈ tables_1, d.before a0 Z = true) (a1 : Addr) (p2 : Int32) (p3 : Int32) (w_length_a1 : Int32) (w_distinctTerms_a1 : Int32) (h0 : Heap) (n0 : Nat) (Zs : n0 ≤ h0.size) (E_a1 : Exa Z h0 a1 "com/example/rank_by_likelihood/rankbylikelihood/model/DocumentStatistics") (F_length_a1 : Fld Z h0 a1 "com/example/rank_by_likelihood/rankbylikelihood/model/DocumentStatistics" "length" "I" (.int w_length_a1)) (F_distinctTerms_a1 : Fld Z h0 a1 "com/example/rank_by_likelihood/rankbylikelihood/model/DocumentStatistics" "distinctTerms" "I" (.int w_distinctTerms_a1)) (g_a1 : n0 ≤ a1) :
    Met1 l Z (⟨"com/example/rank_by_likelihood/rankbylikelihood/model/DocumentStatistics", "<init>", "(II)V"⟩ : MethodName) prog_59_method_1_code 3 none ({ frames := 1, cells := 0, slots := 0, locals := 12 } : Room) #[(.ref a1), (.int p2), (.int p3)] h0 (Q1 Z a1 p2 p3 w_length_a1 w_distinctTerms_a1 h0 n0) := by
  refine own_met_of (plainFor_of_name pn_1) (ef_1 a1 p2 p3) ?_
  intro p e s m below meth c s₁ X hx hby hml hZ hown hnm hret hlk eT
  have hown : s.vm.findClass "com/example/rank_by_likelihood/rankbylikelihood/model/DocumentStatistics" = some m.cls := hown
  have N := Fr.nil n0
  have K := Keep.refl h0 [a1]
  refine own_aloadN X hx hby (.ref a1) d1_0 rfl rfl 1 rfl ?_
  refine own_initO X hx hby hZ hown (hw _ (List.mem_of_getElem? (i := 6) rfl)) (hw _ (List.mem_of_getElem? (i := 7) rfl)) (hw _ (List.mem_of_getElem? (i := 8) rfl)) eT (by rw [hml]; rfl) d1_1 (by decide) 0 rfl (by decide) 4 rfl ?_
  intro T1 X eT
  refine own_aloadN X hx hby (.ref a1) d1_4 rfl rfl 5 rfl ?_
  refine own_iloadN X hx hby p2 d1_5 rfl 6 rfl ?_
  refine own_putF X hx hby hZ hown (host := "") (Or.inl (hw _ (List.mem_of_getElem? (i := 9) rfl))) Via.refl eT F_length_a1 E_a1 (Or.inr ⟨(hw _ (List.mem_of_getElem? (i := 10) rfl)), rfl, hnm⟩) (hw _ (List.mem_of_getElem? (i := 1) rfl)) (ty := .int) (by decide) rfl rfl d1_6 9 rfl ?_
  intro T6 h6 X eT W
  have E_a1 := E_a1.wr W
  have F_length_a1 := F_length_a1.same W
  have F_distinctTerms_a1 := F_distinctTerms_a1.other W (Or.inr (slot_ne (Or.inr (hw _ (List.mem_of_getElem? (i := 12) rfl))) (Or.inr (hw _ (List.mem_of_getElem? (i := 10) rfl))) (by decide) (t := .int) (t' := .int) (by decide) (by decide)))
  have N := Fr.snoc X N g_a1
  have K := K.wr W (Or.inl (List.mem_of_getElem? (i := 0) rfl))
  have Zs := Nat.le_trans Zs (Keep.of_wr W).1
  refine own_aloadN X hx hby (.ref a1) d1_9 rfl rfl 10 rfl ?_
  refine own_iloadN X hx hby p3 d1_10 rfl 11 rfl ?_
  refine own_putF X hx hby hZ hown (host := "") (Or.inl (hw _ (List.mem_of_getElem? (i := 11) rfl))) Via.refl eT F_distinctTerms_a1 E_a1 (Or.inr ⟨(hw _ (List.mem_of_getElem? (i := 12) rfl)), rfl, hnm⟩) (hw _ (List.mem_of_getElem? (i := 1) rfl)) (ty := .int) (by decide) rfl rfl d1_11 14 rfl ?_
  intro T11 h11 X eT W
  have E_a1 := E_a1.wr W
  have F_length_a1 := F_length_a1.other W (Or.inr (slot_ne (Or.inr (hw _ (List.mem_of_getElem? (i := 10) rfl))) (Or.inr (hw _ (List.mem_of_getElem? (i := 12) rfl))) (by decide) (t := .int) (t' := .int) (by decide) (by decide)))
  have F_distinctTerms_a1 := F_distinctTerms_a1.same W
  have N := Fr.snoc X N g_a1
  have K := K.wr W (Or.inl (List.mem_of_getElem? (i := 0) rfl))
  have Zs := Nat.le_trans Zs (Keep.of_wr W).1
  refine own_ret X hx hby hret hlk d1_14 (by decide) (by decide) ?_
  rw [eT]
  exact ⟨rfl, N, K, E_a1, F_length_a1, F_distinctTerms_a1⟩
theorem ef_6 (a1 : Addr) (m : MethodId) : entryFrame m #[(.ref a1)] 1 = mkF m 0 #[.val (.ref a1)] [] := by first | (simp [entryFrame, mkF, argsToLocals, Value.category]; done) | rfl
def Q6 (Z : State) (a1 : Addr) (h0 : Heap) (n0 : Nat) (v : Option Value) (h : Heap) (L : List Loc) : Prop := v = none ∧ Fr n0 L ∧ h = h0
set_option maxRecDepth 65536 in
set_option maxHeartbeats 40000000 in
theorem rm6 (l : Launch) (Z : State) (a0 : Array Value) (hw : ∀ d ∈ tables_1, d.before a0 Z = true) (a1 : Addr) (h0 : Heap) (n0 : Nat) (Zs : n0 ≤ h0.size) :
    Met1 l Z (⟨"java/lang/Number", "<init>", "()V"⟩ : MethodName) jdk_18_method_1_code 1 none ({ frames := 1, cells := 0, slots := 0, locals := 12 } : Room) #[(.ref a1)] h0 (Q6 Z a1 h0 n0) := by
  refine own_met_of (plainFor_of_name pn_6) (ef_6 a1) ?_
  intro p e s m below meth c s₁ X hx hby hml hZ hown hnm hret hlk eT
  have hown : s.vm.findClass "java/lang/Number" = some m.cls := hown
  have N := Fr.nil n0
  refine own_aloadN X hx hby (.ref a1) d6_0 rfl rfl 1 rfl ?_
  refine own_initO X hx hby hZ hown (hw _ (List.mem_of_getElem? (i := 38) rfl)) (hw _ (List.mem_of_getElem? (i := 7) rfl)) (hw _ (List.mem_of_getElem? (i := 8) rfl)) eT (by rw [hml]; rfl) d6_1 (by decide) 0 rfl (by decide) 4 rfl ?_
  intro T1 X eT
  refine own_ret X hx hby hret hlk d6_4 (by decide) (by decide) ?_
  rw [eT]
  exact ⟨rfl, N, rfl⟩
theorem ef_5 (a1 : Addr) (p2 : Int32) (m : MethodId) : entryFrame m #[(.ref a1), (.int p2)] 2 = mkF m 0 #[.val (.ref a1), .val (.int p2)] [] := by first | (simp [entryFrame, mkF, argsToLocals, Value.category]; done) | rfl
def Q5 (Z : State) (a1 : Addr) (p2 : Int32) (w_value_a1 : Int32) (h0 : Heap) (n0 : Nat) (v : Option Value) (h : Heap) (L : List Loc) : Prop := v = none ∧ Fr n0 L ∧ Keep h0 h [a1] ∧ Exa Z h a1 "java/lang/Integer" ∧ Fld Z h a1 "java/lang/Integer" "value" "I" (.int p2)
set_option maxRecDepth 65536 in
set_option maxHeartbeats 40000000 in
theorem rm5 (l : Launch) (Z : State) (a0 : Array Value) (hw : ∀ d ∈ tables_1, d.before a0 Z = true) (a1 : Addr) (p2 : Int32) (w_value_a1 : Int32) (h0 : Heap) (n0 : Nat) (Zs : n0 ≤ h0.size) (E_a1 : Exa Z h0 a1 "java/lang/Integer") (F_value_a1 : Fld Z h0 a1 "java/lang/Integer" "value" "I" (.int w_value_a1)) (g_a1 : n0 ≤ a1) :
    Met1 l Z (⟨"java/lang/Integer", "<init>", "(I)V"⟩ : MethodName) jdk_33_method_23_code 2 none ({ frames := 2, cells := 0, slots := 0, locals := 24 } : Room) #[(.ref a1), (.int p2)] h0 (Q5 Z a1 p2 w_value_a1 h0 n0) := by
  refine own_met_of (plainFor_of_name pn_5) (ef_5 a1 p2) ?_
  intro p e s m below meth c s₁ X hx hby hml hZ hown hnm hret hlk eT
  have hown : s.vm.findClass "java/lang/Integer" = some m.cls := hown
  have N := Fr.nil n0
  have K := Keep.refl h0 [a1]
  refine own_aloadN X hx hby (.ref a1) d5_0 rfl rfl 1 rfl ?_
  refine own_callC X hx hby hZ (st := []) [] rfl rfl hown (hw _ (List.mem_of_getElem? (i := 32) rfl)) (hw _ (List.mem_of_getElem? (i := 33) rfl)) (hw _ (List.mem_of_getElem? (i := 36) rfl)) (hw _ (List.mem_of_getElem? (i := 37) rfl)) (by decide) d5_1 (rm6 l Z a0 hw a1 h0 n0 Zs ) eT pd_0 rfl (by rw [hml]; rfl) (by decide) 0 rfl (by decide) (by decide) (by decide) 4 rfl ?_
  intro T1 L9 v9 X hQ
  obtain ⟨rfl, N9, eT⟩ := hQ
  have N := Fr.app N N9
  show Go p e below _ T1 (mkF m 4 #[.val (.ref a1), .val (.int p2)] [])
  refine own_aloadN X hx hby (.ref a1) d5_4 rfl rfl 5 rfl ?_
  refine own_iloadN X hx hby p2 d5_5 rfl 6 rfl ?_
  refine own_putF X hx hby hZ hown (host := "") (Or.inl (hw _ (List.mem_of_getElem? (i := 39) rfl))) Via.refl eT F_value_a1 E_a1 (Or.inr ⟨(hw _ (List.mem_of_getElem? (i := 40) rfl)), rfl, hnm⟩) (hw _ (List.mem_of_getElem? (i := 27) rfl)) (ty := .int) (by decide) rfl rfl d5_6 9 rfl ?_
  intro T6 h6 X eT W
  have E_a1 := E_a1.wr W
  have F_value_a1 := F_value_a1.same W
  have N := Fr.snoc X N g_a1
  have K := K.wr W (Or.inl (List.mem_of_getElem? (i := 0) rfl))
  have Zs := Nat.le_trans Zs (Keep.of_wr W).1
  refine own_ret X hx hby hret hlk d5_9 (by decide) (by decide) ?_
  rw [eT]
  exact ⟨rfl, N, K, E_a1, F_value_a1⟩
theorem ef_4 (p1 : Int32) (m : MethodId) : entryFrame m #[(.int p1)] 1 = mkF m 0 #[.val (.int p1)] [] := by first | (simp [entryFrame, mkF, argsToLocals, Value.category]; done) | rfl
def Q4 (Z : State) (p1 : Int32) (u_cache : Addr) (fc : Nat → Value) (h0 : Heap) (n0 : Nat) (v : Option Value) (h : Heap) (L : List Loc) : Prop := ∃ (rr : Addr), v = some (.ref rr) ∧ Fr n0 L ∧ Keep h0 h [] ∧ Exa Z h rr "java/lang/Integer"
set_option maxRecDepth 65536 in
set_option maxHeartbeats 40000000 in
theorem rm4 (l : Launch) (Z : State) (a0 : Array Value) (hw : ∀ d ∈ tables_1, d.before a0 Z = true) (p1 : Int32) (u_cache : Addr) (fc : Nat → Value) (h0 : Heap) (n0 : Nat) (Zs : n0 ≤ h0.size) (A_cache : Afn Z h0 u_cache (.object "java/lang/Integer") 256 fc) (hfc : ∀ i, i < 256 → ∃ r : Addr, fc i = .ref r ∧ Exa Z h0 r "java/lang/Integer") (S_high : Sta Z h0 "java/lang/Integer$IntegerCache" "high" "I" (.int (127 : Int32))) (S_cache : Sta Z h0 "java/lang/Integer$IntegerCache" "cache" "[Ljava/lang/Integer;" (.ref u_cache)) :
    Met1 l Z (⟨"java/lang/Integer", "valueOf", "(I)Ljava/lang/Integer;"⟩ : MethodName) jdk_33_method_22_code 1 (some (.object "java/lang/Integer")) ({ frames := 3, cells := 1, slots := 1, locals := 38 } : Room) #[(.int p1)] h0 (Q4 Z p1 u_cache fc h0 n0) := by
  refine own_met_of (plainFor_of_name pn_5) (ef_4 p1) ?_
  intro p e s m below meth c s₁ X hx hby hml hZ hown hnm hret hlk eT
  have hown : s.vm.findClass "java/lang/Integer" = some m.cls := hown
  have N := Fr.nil n0
  have K := Keep.refl h0 []
  refine own_iloadN X hx hby p1 d4_0 rfl 1 rfl ?_
  refine own_bipush X hx hby (-128 : Int32) d4_1 rfl 3 rfl ?_
  refine own_icmp_lt X hx hby d4_3 23 6 (by decide) rfl (fun c3 => ?_) (fun c3 => ?_)
  · skip
    refine own_new X hx hby hZ hown (hw _ (List.mem_of_getElem? (i := 26) rfl)) (hw _ (List.mem_of_getElem? (i := 27) rfl)) (hw _ (List.mem_of_getElem? (i := 22) rfl)) eT d4_23 (by decide) (by decide) 26 rfl ?_
    intro T23 h23 b23 gb23 X eT Ex A D
    have g_b23 : n0 ≤ b23 := by rw [gb23]; exact Zs
    have sz_b23 : h0.size ≤ b23 := by rw [gb23]; exact K.1
    have E_b23 := A
    have F_value_b23 : Fld Z h23 b23 "java/lang/Integer" "value" "I" (.int (0 : Int32)) := D (Or.inr (hw _ (List.mem_of_getElem? (i := 40) rfl))) (ty := .int) (by decide)
    have K := K.ext Ex
    have Zs := Nat.le_trans Zs Ex.1
    refine own_dup X hx hby d4_26 rfl 27 rfl ?_
    refine own_iloadN X hx hby p1 d4_27 rfl 28 rfl ?_
    refine own_callC X hx hby hZ (st := [(.ref b23)]) [(.int p1)] rfl rfl hown (hw _ (List.mem_of_getElem? (i := 28) rfl)) (hw _ (List.mem_of_getElem? (i := 29) rfl)) (hw _ (List.mem_of_getElem? (i := 22) rfl)) (hw _ (List.mem_of_getElem? (i := 31) rfl)) (by decide) d4_28 (rm5 l Z a0 hw b23 p1 (0 : Int32) h23 n0 Zs E_b23 F_value_b23 g_b23) eT pd_2 rfl (by rw [hml]; rfl) (by decide) 1 rfl (by decide) (by decide) (by decide) 31 rfl ?_
    intro T28 L9 v9 X hQ
    obtain ⟨h28, eT⟩ : ∃ z, T28.heap = z := ⟨_, rfl⟩
    rw [eT] at hQ
    obtain ⟨rfl, N9, Kc, E_b23, F_value_b23⟩ := hQ
    have K := K.trans Kc (allS (Or.inr sz_b23) all0)
    have Zs := Nat.le_trans Zs Kc.1
    have N := Fr.app N N9
    show Go p e below _ T28 (mkF m 31 #[.val (.int p1)] [(.ref b23)])
    refine own_retA X hx hby hret hlk rfl rfl rfl d4_31 (by decide) (by decide) ?_
    rw [eT]
    exact ⟨b23, rfl, N, K, E_b23⟩
  · skip
    refine own_iloadN X hx hby p1 d4_6 rfl 7 rfl ?_
    refine own_getS X hx hby hZ hown (host := "") (Or.inl (hw _ (List.mem_of_getElem? (i := 24) rfl))) Via.refl eT S_high d4_7 10 rfl ?_
    intro T7 X eT
    refine own_icmp_gt X hx hby d4_10 23 13 (by decide) rfl (fun c10 => ?_) (fun c10 => ?_)
    · skip
      refine own_new X hx hby hZ hown (hw _ (List.mem_of_getElem? (i := 26) rfl)) (hw _ (List.mem_of_getElem? (i := 27) rfl)) (hw _ (List.mem_of_getElem? (i := 22) rfl)) eT d4_23 (by decide) (by decide) 26 rfl ?_
      intro T23 h23 b23 gb23 X eT Ex A D
      have g_b23 : n0 ≤ b23 := by rw [gb23]; exact Zs
      have sz_b23 : h0.size ≤ b23 := by rw [gb23]; exact K.1
      have E_b23 := A
      have F_value_b23 : Fld Z h23 b23 "java/lang/Integer" "value" "I" (.int (0 : Int32)) := D (Or.inr (hw _ (List.mem_of_getElem? (i := 40) rfl))) (ty := .int) (by decide)
      have K := K.ext Ex
      have Zs := Nat.le_trans Zs Ex.1
      refine own_dup X hx hby d4_26 rfl 27 rfl ?_
      refine own_iloadN X hx hby p1 d4_27 rfl 28 rfl ?_
      refine own_callC X hx hby hZ (st := [(.ref b23)]) [(.int p1)] rfl rfl hown (hw _ (List.mem_of_getElem? (i := 28) rfl)) (hw _ (List.mem_of_getElem? (i := 29) rfl)) (hw _ (List.mem_of_getElem? (i := 22) rfl)) (hw _ (List.mem_of_getElem? (i := 31) rfl)) (by decide) d4_28 (rm5 l Z a0 hw b23 p1 (0 : Int32) h23 n0 Zs E_b23 F_value_b23 g_b23) eT pd_2 rfl (by rw [hml]; rfl) (by decide) 1 rfl (by decide) (by decide) (by decide) 31 rfl ?_
      intro T28 L9 v9 X hQ
      obtain ⟨h28, eT⟩ : ∃ z, T28.heap = z := ⟨_, rfl⟩
      rw [eT] at hQ
      obtain ⟨rfl, N9, Kc, E_b23, F_value_b23⟩ := hQ
      have K := K.trans Kc (allS (Or.inr sz_b23) all0)
      have Zs := Nat.le_trans Zs Kc.1
      have N := Fr.app N N9
      show Go p e below _ T28 (mkF m 31 #[.val (.int p1)] [(.ref b23)])
      refine own_retA X hx hby hret hlk rfl rfl rfl d4_31 (by decide) (by decide) ?_
      rw [eT]
      exact ⟨b23, rfl, N, K, E_b23⟩
    · skip
      refine own_getS X hx hby hZ hown (host := "") (Or.inl (hw _ (List.mem_of_getElem? (i := 44) rfl))) Via.refl eT S_cache d4_13 16 rfl ?_
      intro T13 X eT
      refine own_iloadN X hx hby p1 d4_16 rfl 17 rfl ?_
      refine own_sipush X hx hby (128 : Int32) d4_17 rfl 20 rfl ?_
      refine own_iadd X hx hby d4_20 21 rfl ?_
      obtain ⟨r21, hr21, E_r21⟩ := hfc (Int32.toNatClampNeg (p1 + (128 : Int32))) (Jvm.Free.IntBox.place_ok p1 c3 c10).2
      refine own_aaload X hx hby hZ (.ref r21) eT A_cache rfl (Jvm.Free.IntBox.place_ok p1 c3 c10).1 hr21 d4_21 22 rfl ?_
      refine own_retA X hx hby hret hlk rfl rfl rfl d4_22 (by decide) (by decide) ?_
      rw [eT]
      exact ⟨r21, rfl, N, K, E_r21⟩
theorem ef_3_d (a1 : Addr) (a2 : Addr) (m : MethodId) : entryFrame m #[(.ref a1), (.ref a2)] 2 = mkF m 0 #[.val (.ref a1), .val (.ref a2)] [] := by first | (simp [entryFrame, mkF, argsToLocals, Value.category]; done) | rfl
def f3_d (w_length_a2 : Int32) (w_length_a1 : Int32) (w_distinctTerms_a2 : Int32) (w_distinctTerms_a1 : Int32) : Int32 := (if w_length_a2 = w_length_a1 then (if w_distinctTerms_a2 = w_distinctTerms_a1 then (1 : Int32) else (0 : Int32)) else (0 : Int32))
def Q3_d (Z : State) (a1 : Addr) (a2 : Addr) (w_length_a2 : Int32) (w_length_a1 : Int32) (w_distinctTerms_a2 : Int32) (w_distinctTerms_a1 : Int32) (h0 : Heap) (n0 : Nat) (v : Option Value) (h : Heap) (L : List Loc) : Prop := v = some (.int (f3_d w_length_a2 w_length_a1 w_distinctTerms_a2 w_distinctTerms_a1)) ∧ Fr n0 L ∧ h = h0
set_option maxRecDepth 65536 in
set_option maxHeartbeats 40000000 in
theorem rm3_d (l : Launch) (Z : State) (a0 : Array Value) (hw : ∀ d ∈ tables_1, d.before a0 Z = true) (a1 : Addr) (a2 : Addr) (w_length_a2 : Int32) (w_length_a1 : Int32) (w_distinctTerms_a2 : Int32) (w_distinctTerms_a1 : Int32) (h0 : Heap) (n0 : Nat) (Zs : n0 ≤ h0.size) (E_a2 : Exa Z h0 a2 "com/example/rank_by_likelihood/rankbylikelihood/model/DocumentStatistics") (F_length_a2 : Fld Z h0 a2 "com/example/rank_by_likelihood/rankbylikelihood/model/DocumentStatistics" "length" "I" (.int w_length_a2)) (F_length_a1 : Fld Z h0 a1 "com/example/rank_by_likelihood/rankbylikelihood/model/DocumentStatistics" "length" "I" (.int w_length_a1)) (F_distinctTerms_a2 : Fld Z h0 a2 "com/example/rank_by_likelihood/rankbylikelihood/model/DocumentStatistics" "distinctTerms" "I" (.int w_distinctTerms_a2)) (F_distinctTerms_a1 : Fld Z h0 a1 "com/example/rank_by_likelihood/rankbylikelihood/model/DocumentStatistics" "distinctTerms" "I" (.int w_distinctTerms_a1)) :
    Met1 l Z (⟨"com/example/rank_by_likelihood/rankbylikelihood/model/DocumentStatistics", "equals", "(Ljava/lang/Object;)Z"⟩ : MethodName) prog_59_method_4_code 2 (some .boolean) ({ frames := 0, cells := 0, slots := 0, locals := 0 } : Room) #[(.ref a1), (.ref a2)] h0 (Q3_d Z a1 a2 w_length_a2 w_length_a1 w_distinctTerms_a2 w_distinctTerms_a1 h0 n0) := by
  refine own_met_of (plainFor_of_name pn_1) (ef_3_d a1 a2) ?_
  intro p e s m below meth c s₁ X hx hby hml hZ hown hnm hret hlk eT
  have hown : s.vm.findClass "com/example/rank_by_likelihood/rankbylikelihood/model/DocumentStatistics" = some m.cls := hown
  have N := Fr.nil n0
  refine own_aloadN X hx hby (.ref a2) d3_0 rfl rfl 1 rfl ?_
  refine own_instY X hx hby hZ hown (hw _ (List.mem_of_getElem? (i := 18) rfl)) eT (Ins.self E_a2) d3_1 4 rfl ?_
  intro T1 X eT
  have c4 : ¬ (1 : Int32) = (0 : Int32) := by decide
  refine own_if_eq X hx hby d3_4 39 7 (by decide) rfl (fun q => absurd q c4) (fun _ => ?_)
  refine own_aloadN X hx hby (.ref a2) d3_7 rfl rfl 8 rfl ?_
  refine own_castY X hx hby hZ hown (hw _ (List.mem_of_getElem? (i := 18) rfl)) eT (Ins.self E_a2) d3_8 11 rfl ?_
  intro T8 X eT
  refine own_getF X hx hby hZ hown (host := "") (Or.inl (hw _ (List.mem_of_getElem? (i := 9) rfl))) Via.refl eT F_length_a2 d3_11 14 rfl ?_
  intro T11 X eT
  refine own_aloadN X hx hby (.ref a1) d3_14 rfl rfl 15 rfl ?_
  refine own_getF X hx hby hZ hown (host := "") (Or.inl (hw _ (List.mem_of_getElem? (i := 9) rfl))) Via.refl eT F_length_a1 d3_15 18 rfl ?_
  intro T15 X eT
  refine own_icmp_ne X hx hby d3_18 39 21 (by decide) rfl (fun c18 => ?_) (fun c18 => ?_)
  · skip
    refine own_iconst X hx hby (0 : Int32) d3_39 rfl 40 rfl ?_
    refine own_retN X hx hby hret hlk (t := .boolean) (z' := (0 : Int32)) (by simp) d3_40 (by decide) (by decide) rfl ?_
    rw [eT]
    exact ⟨congrArg (fun z => some (Value.int z)) (by unfold f3_d; rw [if_neg c18]), N, rfl⟩
  · skip
    refine own_aloadN X hx hby (.ref a2) d3_21 rfl rfl 22 rfl ?_
    refine own_castY X hx hby hZ hown (hw _ (List.mem_of_getElem? (i := 18) rfl)) eT (Ins.self E_a2) d3_22 25 rfl ?_
    intro T22 X eT
    refine own_getF X hx hby hZ hown (host := "") (Or.inl (hw _ (List.mem_of_getElem? (i := 11) rfl))) Via.refl eT F_distinctTerms_a2 d3_25 28 rfl ?_
    intro T25 X eT
    refine own_aloadN X hx hby (.ref a1) d3_28 rfl rfl 29 rfl ?_
    refine own_getF X hx hby hZ hown (host := "") (Or.inl (hw _ (List.mem_of_getElem? (i := 11) rfl))) Via.refl eT F_distinctTerms_a1 d3_29 32 rfl ?_
    intro T29 X eT
    refine own_icmp_ne X hx hby d3_32 39 35 (by decide) rfl (fun c32 => ?_) (fun c32 => ?_)
    · skip
      refine own_iconst X hx hby (0 : Int32) d3_39 rfl 40 rfl ?_
      refine own_retN X hx hby hret hlk (t := .boolean) (z' := (0 : Int32)) (by simp) d3_40 (by decide) (by decide) rfl ?_
      rw [eT]
      exact ⟨congrArg (fun z => some (Value.int z)) (by unfold f3_d; rw [if_pos c18, if_neg c32]), N, rfl⟩
    · skip
      refine own_iconst X hx hby (1 : Int32) d3_35 rfl 36 rfl ?_
      refine own_goto X hx hby d3_36 40 (by decide) ?_
      refine own_retN X hx hby hret hlk (t := .boolean) (z' := (1 : Int32)) (by simp) d3_40 (by decide) (by decide) rfl ?_
      rw [eT]
      exact ⟨congrArg (fun z => some (Value.int z)) (by unfold f3_d; rw [if_pos c18, if_pos c32]), N, rfl⟩
theorem ef_3_n (a1 : Addr) (m : MethodId) : entryFrame m #[(.ref a1), .null] 2 = mkF m 0 #[.val (.ref a1), .val .null] [] := by first | (simp [entryFrame, mkF, argsToLocals, Value.category]; done) | rfl
def Q3_n (Z : State) (a1 : Addr) (h0 : Heap) (n0 : Nat) (v : Option Value) (h : Heap) (L : List Loc) : Prop := v = some (.int (0 : Int32)) ∧ Fr n0 L ∧ h = h0
set_option maxRecDepth 65536 in
set_option maxHeartbeats 40000000 in
theorem rm3_n (l : Launch) (Z : State) (a0 : Array Value) (hw : ∀ d ∈ tables_1, d.before a0 Z = true) (a1 : Addr) (h0 : Heap) (n0 : Nat) (Zs : n0 ≤ h0.size) :
    Met1 l Z (⟨"com/example/rank_by_likelihood/rankbylikelihood/model/DocumentStatistics", "equals", "(Ljava/lang/Object;)Z"⟩ : MethodName) prog_59_method_4_code 2 (some .boolean) ({ frames := 0, cells := 0, slots := 0, locals := 0 } : Room) #[(.ref a1), .null] h0 (Q3_n Z a1 h0 n0) := by
  refine own_met_of (plainFor_of_name pn_1) (ef_3_n a1) ?_
  intro p e s m below meth c s₁ X hx hby hml hZ hown hnm hret hlk eT
  have hown : s.vm.findClass "com/example/rank_by_likelihood/rankbylikelihood/model/DocumentStatistics" = some m.cls := hown
  have N := Fr.nil n0
  refine own_aloadN X hx hby .null d3_0 rfl rfl 1 rfl ?_
  refine own_instNull X hx hby d3_1 4 rfl ?_
  have c4 : (0 : Int32) = (0 : Int32) := by decide
  refine own_if_eq X hx hby d3_4 39 7 (by decide) rfl (fun _ => ?_) (fun q => absurd c4 q)
  refine own_iconst X hx hby (0 : Int32) d3_39 rfl 40 rfl ?_
  refine own_retN X hx hby hret hlk (t := .boolean) (z' := (0 : Int32)) (by simp) d3_40 (by decide) (by decide) rfl ?_
  rw [eT]
  exact ⟨rfl, N, rfl⟩
theorem ef_3_i (a1 : Addr) (a2 : Addr) (m : MethodId) : entryFrame m #[(.ref a1), (.ref a2)] 2 = mkF m 0 #[.val (.ref a1), .val (.ref a2)] [] := by first | (simp [entryFrame, mkF, argsToLocals, Value.category]; done) | rfl
def Q3_i (Z : State) (a1 : Addr) (a2 : Addr) (h0 : Heap) (n0 : Nat) (v : Option Value) (h : Heap) (L : List Loc) : Prop := v = some (.int (0 : Int32)) ∧ Fr n0 L ∧ h = h0
set_option maxRecDepth 65536 in
set_option maxHeartbeats 40000000 in
theorem rm3_i (l : Launch) (Z : State) (a0 : Array Value) (hw : ∀ d ∈ tables_1, d.before a0 Z = true) (a1 : Addr) (a2 : Addr) (h0 : Heap) (n0 : Nat) (Zs : n0 ≤ h0.size) (E_a2 : Exa Z h0 a2 "java/lang/Integer") :
    Met1 l Z (⟨"com/example/rank_by_likelihood/rankbylikelihood/model/DocumentStatistics", "equals", "(Ljava/lang/Object;)Z"⟩ : MethodName) prog_59_method_4_code 2 (some .boolean) ({ frames := 0, cells := 0, slots := 0, locals := 0 } : Room) #[(.ref a1), (.ref a2)] h0 (Q3_i Z a1 a2 h0 n0) := by
  refine own_met_of (plainFor_of_name pn_1) (ef_3_i a1 a2) ?_
  intro p e s m below meth c s₁ X hx hby hml hZ hown hnm hret hlk eT
  have hown : s.vm.findClass "com/example/rank_by_likelihood/rankbylikelihood/model/DocumentStatistics" = some m.cls := hown
  have N := Fr.nil n0
  refine own_aloadN X hx hby (.ref a2) d3_0 rfl rfl 1 rfl ?_
  refine own_instNo X hx hby hZ hown (hw _ (List.mem_of_getElem? (i := 18) rfl)) eT E_a2 (own_NSno (hw _ (List.mem_of_getElem? (i := 41) rfl)) (hw _ (List.mem_of_getElem? (i := 1) rfl)) (NS.step (hw _ (List.mem_of_getElem? (i := 41) rfl)) (NS.step (hw _ (List.mem_of_getElem? (i := 42) rfl)) (own_NSroot (hw _ (List.mem_of_getElem? (i := 43) rfl)) (hw _ (List.mem_of_getElem? (i := 1) rfl)) (by decide)) (by decide)) (by decide)) (by decide)) d3_1 4 rfl ?_
  intro T1 X eT
  have c4 : (0 : Int32) = (0 : Int32) := by decide
  refine own_if_eq X hx hby d3_4 39 7 (by decide) rfl (fun _ => ?_) (fun q => absurd c4 q)
  refine own_iconst X hx hby (0 : Int32) d3_39 rfl 40 rfl ?_
  refine own_retN X hx hby hret hlk (t := .boolean) (z' := (0 : Int32)) (by simp) d3_40 (by decide) (by decide) rfl ?_
  rw [eT]
  exact ⟨rfl, N, rfl⟩
theorem ef_0 (p1 : Int32) (p2 : Int32) (p3 : Int32) (p4 : Int32) (p5 : Int32) (m : MethodId) : entryFrame m #[(.int p1), (.int p2), (.int p3), (.int p4), (.int p5)] maxLocals = mkF m 0 #[.val (.int p1), .val (.int p2), .val (.int p3), .val (.int p4), .val (.int p5), .unset, .unset, .unset, .unset, .unset, .unset, .unset, .unset] [] := by first | (simp [entryFrame, mkF, argsToLocals, Value.category, maxLocals]; done) | rfl
def Q0 (Z : State) (p1 : Int32) (p2 : Int32) (p3 : Int32) (p4 : Int32) (p5 : Int32) (u_cache : Addr) (fc : Nat → Value) (h0 : Heap) (n0 : Nat) (v : Option Value) (h : Heap) (L : List Loc) : Prop := v = some (.int (1 : Int32)) ∧ Fr n0 L
theorem own_self (x y : Int32) : f3_d x x y y = 1 := by
  unfold f3_d
  rw [if_pos rfl, if_pos rfl]
theorem own_eq1 (a b c d j : Int32) (ej : j = (if a = b then (if c = d then (1 : Int32) else (0 : Int32)) else (0 : Int32))) : f3_d a b c d = j := by
  rw [ej]
  rfl
theorem own_eq2 (a b c d j : Int32) (ej : j = (if a = b then (if c = d then (1 : Int32) else (0 : Int32)) else (0 : Int32))) : f3_d b a d c = j := by
  rw [ej]
  unfold f3_d
  by_cases h1 : a = b
  · subst h1
    by_cases h2 : c = d
    · subst h2; rfl
    · rw [if_pos rfl, if_neg (Ne.symm h2), if_pos rfl, if_neg h2]
  · rw [if_neg (Ne.symm h1), if_neg h1]
set_option maxRecDepth 65536 in
set_option maxHeartbeats 40000000 in
theorem rm0 (l : Launch) (Z : State) (a0 : Array Value) (hw : ∀ d ∈ tables_1, d.before a0 Z = true) (p1 : Int32) (p2 : Int32) (p3 : Int32) (p4 : Int32) (p5 : Int32) (u_cache : Addr) (fc : Nat → Value) (h0 : Heap) (n0 : Nat) (Zs : n0 ≤ h0.size) (A_cache : Afn Z h0 u_cache (.object "java/lang/Integer") 256 fc) (hfc : ∀ i, i < 256 → ∃ r : Addr, fc i = .ref r ∧ Exa Z h0 r "java/lang/Integer") (S_high : Sta Z h0 "java/lang/Integer$IntegerCache" "high" "I" (.int (127 : Int32))) (S_cache : Sta Z h0 "java/lang/Integer$IntegerCache" "cache" "[Ljava/lang/Integer;" (.ref u_cache)) :
    Met1 l Z x code maxLocals ret room_1 #[(.int p1), (.int p2), (.int p3), (.int p4), (.int p5)] h0 (Q0 Z p1 p2 p3 p4 p5 u_cache fc h0 n0) := by
  refine own_met_of (plainFor_of_name pn_0) (ef_0 p1 p2 p3 p4 p5) ?_
  intro p e s m below meth c s₁ X hx hby hml hZ hown hnm hret hlk eT
  have hown : s.vm.findClass "com/example/rank_by_likelihood/rankbylikelihood/model/DocumentStatisticsEqualsPinLaw" = some m.cls := hown
  have N := Fr.nil n0
  have K := Keep.refl h0 []
  refine own_iload X hx hby p5 at_0 rfl 2 rfl ?_
  refine own_bipush X hx hby (7 : Int32) at_2 rfl 4 rfl ?_
  refine own_iand X hx hby at_4 5 rfl ?_
  obtain ⟨v5, e5⟩ : ∃ z : Int32, (p5 &&& (7 : Int32)) = z := ⟨_, rfl⟩
  refine own_istore X hx hby at_5 e5 (l' := #[.val (.int p1), .val (.int p2), .val (.int p3), .val (.int p4), .val (.int p5), .val (.int v5), .unset, .unset, .unset, .unset, .unset, .unset, .unset]) rfl 7 rfl ?_
  refine own_iloadN X hx hby p3 at_7 rfl 8 rfl ?_
  refine own_istore X hx hby at_8 rfl (l' := #[.val (.int p1), .val (.int p2), .val (.int p3), .val (.int p4), .val (.int p5), .val (.int v5), .val (.int p3), .unset, .unset, .unset, .unset, .unset, .unset]) rfl 10 rfl ?_
  refine own_iloadN X hx hby p4 at_10 rfl 11 rfl ?_
  refine own_istore X hx hby at_11 rfl (l' := #[.val (.int p1), .val (.int p2), .val (.int p3), .val (.int p4), .val (.int p5), .val (.int v5), .val (.int p3), .val (.int p4), .unset, .unset, .unset, .unset, .unset]) rfl 13 rfl ?_
  refine own_iload X hx hby v5 at_13 rfl 15 rfl ?_
  refine own_if_ne X hx hby at_15 27 18 (by decide) rfl (fun c15 => ?_) (fun c15 => ?_)
  · skip
    refine own_iload X hx hby v5 at_27 rfl 29 rfl ?_
    refine own_iconst X hx hby (1 : Int32) at_29 rfl 30 rfl ?_
    refine own_icmp_ne X hx hby at_30 39 33 (by decide) rfl (fun c30 => ?_) (fun c30 => ?_)
    · skip
      refine own_iload X hx hby v5 at_39 rfl 41 rfl ?_
      refine own_iconst X hx hby (2 : Int32) at_41 rfl 42 rfl ?_
      refine own_icmp_ne X hx hby at_42 51 45 (by decide) rfl (fun c42 => ?_) (fun c42 => ?_)
      · skip
        refine own_iload X hx hby v5 at_51 rfl 53 rfl ?_
        refine own_iconst X hx hby (3 : Int32) at_53 rfl 54 rfl ?_
        refine own_icmp_ne X hx hby at_54 82 57 (by decide) rfl (fun c54 => ?_) (fun c54 => ?_)
        · skip
          refine own_new X hx hby hZ hown (hw _ (List.mem_of_getElem? (i := 0) rfl)) (hw _ (List.mem_of_getElem? (i := 1) rfl)) (hw _ (List.mem_of_getElem? (i := 2) rfl)) eT at_82 (by decide) (by decide) 85 rfl ?_
          intro T82 h82 b82 gb82 X eT Ex A D
          have g_b82 : n0 ≤ b82 := by rw [gb82]; exact Zs
          have sz_b82 : h0.size ≤ b82 := by rw [gb82]; exact K.1
          have E_b82 := A
          have F_length_b82 : Fld Z h82 b82 "com/example/rank_by_likelihood/rankbylikelihood/model/DocumentStatistics" "length" "I" (.int (0 : Int32)) := D (Or.inr (hw _ (List.mem_of_getElem? (i := 10) rfl))) (ty := .int) (by decide)
          have F_distinctTerms_b82 : Fld Z h82 b82 "com/example/rank_by_likelihood/rankbylikelihood/model/DocumentStatistics" "distinctTerms" "I" (.int (0 : Int32)) := D (Or.inr (hw _ (List.mem_of_getElem? (i := 12) rfl))) (ty := .int) (by decide)
          have K := K.ext Ex
          have Zs := Nat.le_trans Zs Ex.1
          refine own_dup X hx hby at_85 rfl 86 rfl ?_
          refine own_iloadN X hx hby p1 at_86 rfl 87 rfl ?_
          refine own_iloadN X hx hby p2 at_87 rfl 88 rfl ?_
          refine own_callC X hx hby hZ (st := [(.ref b82)]) [(.int p1), (.int p2)] rfl rfl hown (hw _ (List.mem_of_getElem? (i := 3) rfl)) (hw _ (List.mem_of_getElem? (i := 4) rfl)) (hw _ (List.mem_of_getElem? (i := 2) rfl)) (hw _ (List.mem_of_getElem? (i := 5) rfl)) (by decide) at_88 (rm1 l Z a0 hw b82 p1 p2 (0 : Int32) (0 : Int32) h82 n0 Zs E_b82 F_length_b82 F_distinctTerms_b82 g_b82) eT pd_3 rfl (by rw [hml]; rfl) (by decide) 1 rfl (by decide) (by decide) (by decide) 91 rfl ?_
          intro T88 L9 v9 X hQ
          obtain ⟨h88, eT⟩ : ∃ z, T88.heap = z := ⟨_, rfl⟩
          rw [eT] at hQ
          obtain ⟨rfl, N9, Kc, E_b82, F_length_b82, F_distinctTerms_b82⟩ := hQ
          have K := K.trans Kc (allS (Or.inr sz_b82) all0)
          have Zs := Nat.le_trans Zs Kc.1
          have N := Fr.app N N9
          show Go p e below _ T88 (mkF m 91 #[.val (.int p1), .val (.int p2), .val (.int p3), .val (.int p4), .val (.int p5), .val (.int v5), .val (.int p3), .val (.int p4), .unset, .unset, .unset, .unset, .unset] [(.ref b82)])
          refine own_astore X hx hby at_91 rfl (l' := #[.val (.int p1), .val (.int p2), .val (.int p3), .val (.int p4), .val (.int p5), .val (.int v5), .val (.int p3), .val (.int p4), .val (.ref b82), .unset, .unset, .unset, .unset]) rfl 93 rfl ?_
          refine own_aload X hx hby (.ref b82) at_93 rfl rfl 95 rfl ?_
          refine own_aload X hx hby (.ref b82) at_95 rfl rfl 97 rfl ?_
          refine own_callV X hx hby hZ (st := []) [(.ref b82)] rfl hown (hw _ (List.mem_of_getElem? (i := 13) rfl)) (hw _ (List.mem_of_getElem? (i := 14) rfl)) (hw _ (List.mem_of_getElem? (i := 16) rfl)) (hw _ (List.mem_of_getElem? (i := 15) rfl)) (hw _ (List.mem_of_getElem? (i := 2) rfl)) (hw _ (List.mem_of_getElem? (i := 17) rfl)) E_b82 (by decide) at_97 (rm3_d l Z a0 hw b82 b82 p1 p1 p2 p2 h88 n0 Zs E_b82 F_length_b82 F_length_b82 F_distinctTerms_b82 F_distinctTerms_b82) eT pd_4 rfl (by rw [hml]; rfl) (by decide) 0 rfl (by decide) (by decide) (by decide) 100 rfl ?_
          intro T97 L9 v9 X hQ
          obtain ⟨rfl, N9, eT⟩ := hQ
          have N := Fr.app N N9
          show Go p e below _ T97 (mkF m 100 #[.val (.int p1), .val (.int p2), .val (.int p3), .val (.int p4), .val (.int p5), .val (.int v5), .val (.int p3), .val (.int p4), .val (.ref b82), .unset, .unset, .unset, .unset] [(.int (f3_d p1 p1 p2 p2))])
          obtain ⟨v100, e100⟩ : ∃ z : Int32, (f3_d p1 p1 p2 p2) = z := ⟨_, rfl⟩
          refine own_istore X hx hby at_100 e100 (l' := #[.val (.int p1), .val (.int p2), .val (.int p3), .val (.int p4), .val (.int p5), .val (.int v5), .val (.int p3), .val (.int p4), .val (.ref b82), .val (.int v100), .unset, .unset, .unset]) rfl 102 rfl ?_
          refine own_iload X hx hby p5 at_102 rfl 104 rfl ?_
          refine own_iconst X hx hby (5 : Int32) at_104 rfl 105 rfl ?_
          refine own_ishr X hx hby at_105 106 rfl ?_
          refine own_iconst X hx hby (3 : Int32) at_106 rfl 107 rfl ?_
          refine own_iand X hx hby at_107 108 rfl ?_
          obtain ⟨v108, e108⟩ : ∃ z : Int32, ((p5 >>> ((5 : Int32) &&& 31)) &&& (3 : Int32)) = z := ⟨_, rfl⟩
          refine own_istore X hx hby at_108 e108 (l' := #[.val (.int p1), .val (.int p2), .val (.int p3), .val (.int p4), .val (.int p5), .val (.int v5), .val (.int p3), .val (.int p4), .val (.ref b82), .val (.int v100), .val (.int v108), .unset, .unset]) rfl 110 rfl ?_
          refine own_iload X hx hby v108 at_110 rfl 112 rfl ?_
          refine own_if_ne X hx hby at_112 135 115 (by decide) rfl (fun c112 => ?_) (fun c112 => ?_)
          · skip
            refine own_iload X hx hby v108 at_135 rfl 137 rfl ?_
            refine own_iconst X hx hby (1 : Int32) at_137 rfl 138 rfl ?_
            refine own_icmp_ne X hx hby at_138 168 141 (by decide) rfl (fun c138 => ?_) (fun c138 => ?_)
            · skip
              refine own_new X hx hby hZ hown (hw _ (List.mem_of_getElem? (i := 0) rfl)) (hw _ (List.mem_of_getElem? (i := 1) rfl)) (hw _ (List.mem_of_getElem? (i := 2) rfl)) eT at_168 (by decide) (by decide) 171 rfl ?_
              intro T168 h168 b168 gb168 X eT Ex A D
              have g_b168 : n0 ≤ b168 := by rw [gb168]; exact Zs
              have sz_b168 : h0.size ≤ b168 := by rw [gb168]; exact K.1
              have ne_b82_b168 : b82 ≠ b168 := Nat.ne_of_lt (by rw [gb168]; exact E_b82.lt)
              have E_b82 := E_b82.ext Ex
              have F_length_b82 := F_length_b82.ext Ex
              have F_distinctTerms_b82 := F_distinctTerms_b82.ext Ex
              have E_b168 := A
              have F_length_b168 : Fld Z h168 b168 "com/example/rank_by_likelihood/rankbylikelihood/model/DocumentStatistics" "length" "I" (.int (0 : Int32)) := D (Or.inr (hw _ (List.mem_of_getElem? (i := 10) rfl))) (ty := .int) (by decide)
              have F_distinctTerms_b168 : Fld Z h168 b168 "com/example/rank_by_likelihood/rankbylikelihood/model/DocumentStatistics" "distinctTerms" "I" (.int (0 : Int32)) := D (Or.inr (hw _ (List.mem_of_getElem? (i := 12) rfl))) (ty := .int) (by decide)
              have K := K.ext Ex
              have Zs := Nat.le_trans Zs Ex.1
              refine own_dup X hx hby at_171 rfl 172 rfl ?_
              refine own_iload X hx hby p3 at_172 rfl 174 rfl ?_
              refine own_iload X hx hby p4 at_174 rfl 176 rfl ?_
              refine own_callC X hx hby hZ (st := [(.ref b168)]) [(.int p3), (.int p4)] rfl rfl hown (hw _ (List.mem_of_getElem? (i := 3) rfl)) (hw _ (List.mem_of_getElem? (i := 4) rfl)) (hw _ (List.mem_of_getElem? (i := 2) rfl)) (hw _ (List.mem_of_getElem? (i := 5) rfl)) (by decide) at_176 (rm1 l Z a0 hw b168 p3 p4 (0 : Int32) (0 : Int32) h168 n0 Zs E_b168 F_length_b168 F_distinctTerms_b168 g_b168) eT pd_3 rfl (by rw [hml]; rfl) (by decide) 1 rfl (by decide) (by decide) (by decide) 179 rfl ?_
              intro T176 L9 v9 X hQ
              obtain ⟨h176, eT⟩ : ∃ z, T176.heap = z := ⟨_, rfl⟩
              rw [eT] at hQ
              obtain ⟨rfl, N9, Kc, E_b168, F_length_b168, F_distinctTerms_b168⟩ := hQ
              have E_b82 := E_b82.keep Kc
              have F_length_b82 := F_length_b82.keep Kc (ninS ne_b82_b168 nin0)
              have F_distinctTerms_b82 := F_distinctTerms_b82.keep Kc (ninS ne_b82_b168 nin0)
              have K := K.trans Kc (allS (Or.inr sz_b168) all0)
              have Zs := Nat.le_trans Zs Kc.1
              have N := Fr.app N N9
              show Go p e below _ T176 (mkF m 179 #[.val (.int p1), .val (.int p2), .val (.int p3), .val (.int p4), .val (.int p5), .val (.int v5), .val (.int p3), .val (.int p4), .val (.ref b82), .val (.int v100), .val (.int v108), .unset, .unset] [(.ref b168)])
              refine own_astore X hx hby at_179 rfl (l' := #[.val (.int p1), .val (.int p2), .val (.int p3), .val (.int p4), .val (.int p5), .val (.int v5), .val (.int p3), .val (.int p4), .val (.ref b82), .val (.int v100), .val (.int v108), .val (.ref b168), .unset]) rfl 181 rfl ?_
              refine own_iload X hx hby p3 at_181 rfl 183 rfl ?_
              refine own_iloadN X hx hby p1 at_183 rfl 184 rfl ?_
              have J184 : ∀ (j184_0 : Int32), j184_0 = (if p3 = p1 then (if p4 = p2 then (1 : Int32) else (0 : Int32)) else (0 : Int32)) → Go p e below (FinQ s (Q0 Z p1 p2 p3 p4 p5 u_cache fc h0 n0) room_1.cells room_1.slots) T176 (mkF m 198 #[.val (.int p1), .val (.int p2), .val (.int p3), .val (.int p4), .val (.int p5), .val (.int v5), .val (.int p3), .val (.int p4), .val (.ref b82), .val (.int v100), .val (.int v108), .val (.ref b168), .unset] [(.int j184_0)]) := by
                intro j184_0 ej184_0
                refine own_istore X hx hby at_198 rfl (l' := #[.val (.int p1), .val (.int p2), .val (.int p3), .val (.int p4), .val (.int p5), .val (.int v5), .val (.int p3), .val (.int p4), .val (.ref b82), .val (.int v100), .val (.int v108), .val (.ref b168), .val (.int j184_0)]) rfl 200 rfl ?_
                refine own_iload X hx hby v100 at_200 rfl 202 rfl ?_
                have c202 : ¬ v100 = (0 : Int32) := by rw [← e100]; rw [own_self]; decide
                refine own_if_eq X hx hby at_202 233 205 (by decide) rfl (fun q => absurd q c202) (fun _ => ?_)
                refine own_aload X hx hby (.ref b82) at_205 rfl rfl 207 rfl ?_
                refine own_aload X hx hby (.ref b168) at_207 rfl rfl 209 rfl ?_
                refine own_callV X hx hby hZ (st := []) [(.ref b168)] rfl hown (hw _ (List.mem_of_getElem? (i := 13) rfl)) (hw _ (List.mem_of_getElem? (i := 14) rfl)) (hw _ (List.mem_of_getElem? (i := 16) rfl)) (hw _ (List.mem_of_getElem? (i := 15) rfl)) (hw _ (List.mem_of_getElem? (i := 2) rfl)) (hw _ (List.mem_of_getElem? (i := 17) rfl)) E_b82 (by decide) at_209 (rm3_d l Z a0 hw b82 b168 p3 p1 p4 p2 h176 n0 Zs E_b168 F_length_b168 F_length_b82 F_distinctTerms_b168 F_distinctTerms_b82) eT pd_4 rfl (by rw [hml]; rfl) (by decide) 0 rfl (by decide) (by decide) (by decide) 212 rfl ?_
                intro T209 L9 v9 X hQ
                obtain ⟨rfl, N9, eT⟩ := hQ
                have N := Fr.app N N9
                show Go p e below _ T209 (mkF m 212 #[.val (.int p1), .val (.int p2), .val (.int p3), .val (.int p4), .val (.int p5), .val (.int v5), .val (.int p3), .val (.int p4), .val (.ref b82), .val (.int v100), .val (.int v108), .val (.ref b168), .val (.int j184_0)] [(.int (f3_d p3 p1 p4 p2))])
                refine own_iload X hx hby j184_0 at_212 rfl 214 rfl ?_
                have c214 : (f3_d p3 p1 p4 p2) = j184_0 := own_eq1 _ _ _ _ _ ej184_0
                refine own_icmp_ne X hx hby at_214 233 217 (by decide) rfl (fun q => absurd c214 q) (fun _ => ?_)
                refine own_aload X hx hby (.ref b168) at_217 rfl rfl 219 rfl ?_
                refine own_aload X hx hby (.ref b82) at_219 rfl rfl 221 rfl ?_
                refine own_callV X hx hby hZ (st := []) [(.ref b82)] rfl hown (hw _ (List.mem_of_getElem? (i := 13) rfl)) (hw _ (List.mem_of_getElem? (i := 14) rfl)) (hw _ (List.mem_of_getElem? (i := 16) rfl)) (hw _ (List.mem_of_getElem? (i := 15) rfl)) (hw _ (List.mem_of_getElem? (i := 2) rfl)) (hw _ (List.mem_of_getElem? (i := 17) rfl)) E_b168 (by decide) at_221 (rm3_d l Z a0 hw b168 b82 p1 p3 p2 p4 h176 n0 Zs E_b82 F_length_b82 F_length_b168 F_distinctTerms_b82 F_distinctTerms_b168) eT pd_4 rfl (by rw [hml]; rfl) (by decide) 0 rfl (by decide) (by decide) (by decide) 224 rfl ?_
                intro T221 L9 v9 X hQ
                obtain ⟨rfl, N9, eT⟩ := hQ
                have N := Fr.app N N9
                show Go p e below _ T221 (mkF m 224 #[.val (.int p1), .val (.int p2), .val (.int p3), .val (.int p4), .val (.int p5), .val (.int v5), .val (.int p3), .val (.int p4), .val (.ref b82), .val (.int v100), .val (.int v108), .val (.ref b168), .val (.int j184_0)] [(.int (f3_d p1 p3 p2 p4))])
                refine own_iload X hx hby j184_0 at_224 rfl 226 rfl ?_
                have c226 : (f3_d p1 p3 p2 p4) = j184_0 := own_eq2 _ _ _ _ _ ej184_0
                refine own_icmp_ne X hx hby at_226 233 229 (by decide) rfl (fun q => absurd c226 q) (fun _ => ?_)
                refine own_iconst X hx hby (1 : Int32) at_229 rfl 230 rfl ?_
                refine own_goto X hx hby at_230 234 (by decide) ?_
                refine own_retN X hx hby hret hlk (t := .boolean) (z' := (1 : Int32)) (by simp) at_234 (by decide) (by decide) rfl ?_
                rw [eT]
                exact ⟨rfl, N⟩
              refine own_icmp_ne X hx hby at_184 197 187 (by decide) rfl (fun c184 => ?_) (fun c184 => ?_)
              · skip
                refine own_iconst X hx hby (0 : Int32) at_197 rfl 198 rfl ?_
                exact J184 _ (by rw [if_neg c184])
              · skip
                refine own_iload X hx hby p4 at_187 rfl 189 rfl ?_
                refine own_iloadN X hx hby p2 at_189 rfl 190 rfl ?_
                refine own_icmp_ne X hx hby at_190 197 193 (by decide) rfl (fun c190 => ?_) (fun c190 => ?_)
                · skip
                  refine own_iconst X hx hby (0 : Int32) at_197 rfl 198 rfl ?_
                  exact J184 _ (by rw [if_pos c184, if_neg c190])
                · skip
                  refine own_iconst X hx hby (1 : Int32) at_193 rfl 194 rfl ?_
                  refine own_goto X hx hby at_194 198 (by decide) ?_
                  exact J184 _ (by rw [if_pos c184, if_pos c190])
            · skip
              refine own_iloadN X hx hby p1 at_141 rfl 142 rfl ?_
              refine own_callS X hx hby hZ (st := []) [(.int p1)] rfl hown (hw _ (List.mem_of_getElem? (i := 20) rfl)) (hw _ (List.mem_of_getElem? (i := 21) rfl)) (hw _ (List.mem_of_getElem? (i := 22) rfl)) (hw _ (List.mem_of_getElem? (i := 23) rfl)) (by decide) at_142 (rm4 l Z a0 hw p1 u_cache fc h88 n0 Zs (A_cache.ext (own_ext0 K)) (fun i hi => by obtain ⟨r, h1, h2⟩ := hfc i hi; exact ⟨r, h1, h2.ext (own_ext0 K)⟩) (S_high.ext (own_ext0 K)) (S_cache.ext (own_ext0 K))) eT pd_1 rfl (by rw [hml]; rfl) (by decide) 0 rfl (by decide) (by decide) (by decide) 145 rfl ?_
              intro T142 L9 v9 X hQ
              obtain ⟨h142, eT⟩ : ∃ z, T142.heap = z := ⟨_, rfl⟩
              rw [eT] at hQ
              have lt_b82 := E_b82.lt
              obtain ⟨b142rr, rfl, N9, Kc, E_b142rr⟩ := hQ
              have E_b82 := E_b82.keep Kc
              have F_length_b82 := F_length_b82.keep Kc nin0
              have F_distinctTerms_b82 := F_distinctTerms_b82.keep Kc nin0
              have K := K.trans Kc all0
              have Zs := Nat.le_trans Zs Kc.1
              have N := Fr.app N N9
              show Go p e below _ T142 (mkF m 145 #[.val (.int p1), .val (.int p2), .val (.int p3), .val (.int p4), .val (.int p5), .val (.int v5), .val (.int p3), .val (.int p4), .val (.ref b82), .val (.int v100), .val (.int v108), .unset, .unset] [(.ref b142rr)])
              refine own_astore X hx hby at_145 rfl (l' := #[.val (.int p1), .val (.int p2), .val (.int p3), .val (.int p4), .val (.int p5), .val (.int v5), .val (.int p3), .val (.int p4), .val (.ref b82), .val (.int v100), .val (.int v108), .val (.ref b142rr), .unset]) rfl 147 rfl ?_
              refine own_iload X hx hby v100 at_147 rfl 149 rfl ?_
              have c149 : ¬ v100 = (0 : Int32) := by rw [← e100]; rw [own_self]; decide
              refine own_if_eq X hx hby at_149 166 152 (by decide) rfl (fun q => absurd q c149) (fun _ => ?_)
              refine own_aload X hx hby (.ref b82) at_152 rfl rfl 154 rfl ?_
              refine own_aload X hx hby (.ref b142rr) at_154 rfl rfl 156 rfl ?_
              refine own_callV X hx hby hZ (st := []) [(.ref b142rr)] rfl hown (hw _ (List.mem_of_getElem? (i := 13) rfl)) (hw _ (List.mem_of_getElem? (i := 14) rfl)) (hw _ (List.mem_of_getElem? (i := 16) rfl)) (hw _ (List.mem_of_getElem? (i := 15) rfl)) (hw _ (List.mem_of_getElem? (i := 2) rfl)) (hw _ (List.mem_of_getElem? (i := 17) rfl)) E_b82 (by decide) at_156 (rm3_i l Z a0 hw b82 b142rr h142 n0 Zs E_b142rr) eT pd_4 rfl (by rw [hml]; rfl) (by decide) 0 rfl (by decide) (by decide) (by decide) 159 rfl ?_
              intro T156 L9 v9 X hQ
              obtain ⟨rfl, N9, eT⟩ := hQ
              have N := Fr.app N N9
              show Go p e below _ T156 (mkF m 159 #[.val (.int p1), .val (.int p2), .val (.int p3), .val (.int p4), .val (.int p5), .val (.int v5), .val (.int p3), .val (.int p4), .val (.ref b82), .val (.int v100), .val (.int v108), .val (.ref b142rr), .unset] [(.int (0 : Int32))])
              have c159 : (0 : Int32) = (0 : Int32) := rfl
              refine own_if_ne X hx hby at_159 166 162 (by decide) rfl (fun q => absurd c159 q) (fun _ => ?_)
              refine own_iconst X hx hby (1 : Int32) at_162 rfl 163 rfl ?_
              refine own_goto X hx hby at_163 167 (by decide) ?_
              refine own_retN X hx hby hret hlk (t := .boolean) (z' := (1 : Int32)) (by simp) at_167 (by decide) (by decide) rfl ?_
              rw [eT]
              exact ⟨rfl, N⟩
          · skip
            refine own_iload X hx hby v100 at_115 rfl 117 rfl ?_
            have c117 : ¬ v100 = (0 : Int32) := by rw [← e100]; rw [own_self]; decide
            refine own_if_eq X hx hby at_117 133 120 (by decide) rfl (fun q => absurd q c117) (fun _ => ?_)
            refine own_aload X hx hby (.ref b82) at_120 rfl rfl 122 rfl ?_
            refine own_aconstNull X hx hby at_122 123 rfl ?_
            refine own_callV X hx hby hZ (st := []) [.null] rfl hown (hw _ (List.mem_of_getElem? (i := 13) rfl)) (hw _ (List.mem_of_getElem? (i := 14) rfl)) (hw _ (List.mem_of_getElem? (i := 16) rfl)) (hw _ (List.mem_of_getElem? (i := 15) rfl)) (hw _ (List.mem_of_getElem? (i := 2) rfl)) (hw _ (List.mem_of_getElem? (i := 17) rfl)) E_b82 (by decide) at_123 (rm3_n l Z a0 hw b82 h88 n0 Zs ) eT pd_4 rfl (by rw [hml]; rfl) (by decide) 0 rfl (by decide) (by decide) (by decide) 126 rfl ?_
            intro T123 L9 v9 X hQ
            obtain ⟨rfl, N9, eT⟩ := hQ
            have N := Fr.app N N9
            show Go p e below _ T123 (mkF m 126 #[.val (.int p1), .val (.int p2), .val (.int p3), .val (.int p4), .val (.int p5), .val (.int v5), .val (.int p3), .val (.int p4), .val (.ref b82), .val (.int v100), .val (.int v108), .unset, .unset] [(.int (0 : Int32))])
            have c126 : (0 : Int32) = (0 : Int32) := rfl
            refine own_if_ne X hx hby at_126 133 129 (by decide) rfl (fun q => absurd c126 q) (fun _ => ?_)
            refine own_iconst X hx hby (1 : Int32) at_129 rfl 130 rfl ?_
            refine own_goto X hx hby at_130 134 (by decide) ?_
            refine own_retN X hx hby hret hlk (t := .boolean) (z' := (1 : Int32)) (by simp) at_134 (by decide) (by decide) rfl ?_
            rw [eT]
            exact ⟨rfl, N⟩
        · skip
          refine own_iload X hx hby p5 at_57 rfl 59 rfl ?_
          refine own_iconst X hx hby (3 : Int32) at_59 rfl 60 rfl ?_
          refine own_ishr X hx hby at_60 61 rfl ?_
          refine own_iconst X hx hby (3 : Int32) at_61 rfl 62 rfl ?_
          refine own_iand X hx hby at_62 63 rfl ?_
          refine own_iconst X hx hby (1 : Int32) at_63 rfl 64 rfl ?_
          refine own_iadd X hx hby at_64 65 rfl ?_
          obtain ⟨v65, e65⟩ : ∃ z : Int32, (((p5 >>> ((3 : Int32) &&& 31)) &&& (3 : Int32)) + (1 : Int32)) = z := ⟨_, rfl⟩
          refine own_istore X hx hby at_65 e65 (l' := #[.val (.int p1), .val (.int p2), .val (.int p3), .val (.int p4), .val (.int p5), .val (.int v5), .val (.int p3), .val (.int p4), .val (.int v65), .unset, .unset, .unset, .unset]) rfl 67 rfl ?_
          refine own_iloadN X hx hby p1 at_67 rfl 68 rfl ?_
          refine own_iload X hx hby v65 at_68 rfl 70 rfl ?_
          refine own_iadd X hx hby at_70 71 rfl ?_
          obtain ⟨v71, e71⟩ : ∃ z : Int32, (p1 + v65) = z := ⟨_, rfl⟩
          refine own_istore X hx hby at_71 e71 (l' := #[.val (.int p1), .val (.int p2), .val (.int p3), .val (.int p4), .val (.int p5), .val (.int v5), .val (.int v71), .val (.int p4), .val (.int v65), .unset, .unset, .unset, .unset]) rfl 73 rfl ?_
          refine own_iloadN X hx hby p2 at_73 rfl 74 rfl ?_
          refine own_bipush X hx hby (31 : Int32) at_74 rfl 76 rfl ?_
          refine own_iload X hx hby v65 at_76 rfl 78 rfl ?_
          refine own_imul X hx hby at_78 79 rfl ?_
          refine own_isub X hx hby at_79 80 rfl ?_
          obtain ⟨v80, e80⟩ : ∃ z : Int32, (p2 - ((31 : Int32) * v65)) = z := ⟨_, rfl⟩
          refine own_istore X hx hby at_80 e80 (l' := #[.val (.int p1), .val (.int p2), .val (.int p3), .val (.int p4), .val (.int p5), .val (.int v5), .val (.int v71), .val (.int v80), .val (.int v65), .unset, .unset, .unset, .unset]) rfl 82 rfl ?_
          refine own_new X hx hby hZ hown (hw _ (List.mem_of_getElem? (i := 0) rfl)) (hw _ (List.mem_of_getElem? (i := 1) rfl)) (hw _ (List.mem_of_getElem? (i := 2) rfl)) eT at_82 (by decide) (by decide) 85 rfl ?_
          intro T82 h82 b82 gb82 X eT Ex A D
          have g_b82 : n0 ≤ b82 := by rw [gb82]; exact Zs
          have sz_b82 : h0.size ≤ b82 := by rw [gb82]; exact K.1
          have E_b82 := A
          have F_length_b82 : Fld Z h82 b82 "com/example/rank_by_likelihood/rankbylikelihood/model/DocumentStatistics" "length" "I" (.int (0 : Int32)) := D (Or.inr (hw _ (List.mem_of_getElem? (i := 10) rfl))) (ty := .int) (by decide)
          have F_distinctTerms_b82 : Fld Z h82 b82 "com/example/rank_by_likelihood/rankbylikelihood/model/DocumentStatistics" "distinctTerms" "I" (.int (0 : Int32)) := D (Or.inr (hw _ (List.mem_of_getElem? (i := 12) rfl))) (ty := .int) (by decide)
          have K := K.ext Ex
          have Zs := Nat.le_trans Zs Ex.1
          refine own_dup X hx hby at_85 rfl 86 rfl ?_
          refine own_iloadN X hx hby p1 at_86 rfl 87 rfl ?_
          refine own_iloadN X hx hby p2 at_87 rfl 88 rfl ?_
          refine own_callC X hx hby hZ (st := [(.ref b82)]) [(.int p1), (.int p2)] rfl rfl hown (hw _ (List.mem_of_getElem? (i := 3) rfl)) (hw _ (List.mem_of_getElem? (i := 4) rfl)) (hw _ (List.mem_of_getElem? (i := 2) rfl)) (hw _ (List.mem_of_getElem? (i := 5) rfl)) (by decide) at_88 (rm1 l Z a0 hw b82 p1 p2 (0 : Int32) (0 : Int32) h82 n0 Zs E_b82 F_length_b82 F_distinctTerms_b82 g_b82) eT pd_3 rfl (by rw [hml]; rfl) (by decide) 1 rfl (by decide) (by decide) (by decide) 91 rfl ?_
          intro T88 L9 v9 X hQ
          obtain ⟨h88, eT⟩ : ∃ z, T88.heap = z := ⟨_, rfl⟩
          rw [eT] at hQ
          obtain ⟨rfl, N9, Kc, E_b82, F_length_b82, F_distinctTerms_b82⟩ := hQ
          have K := K.trans Kc (allS (Or.inr sz_b82) all0)
          have Zs := Nat.le_trans Zs Kc.1
          have N := Fr.app N N9
          show Go p e below _ T88 (mkF m 91 #[.val (.int p1), .val (.int p2), .val (.int p3), .val (.int p4), .val (.int p5), .val (.int v5), .val (.int v71), .val (.int v80), .val (.int v65), .unset, .unset, .unset, .unset] [(.ref b82)])
          refine own_astore X hx hby at_91 rfl (l' := #[.val (.int p1), .val (.int p2), .val (.int p3), .val (.int p4), .val (.int p5), .val (.int v5), .val (.int v71), .val (.int v80), .val (.ref b82), .unset, .unset, .unset, .unset]) rfl 93 rfl ?_
          refine own_aload X hx hby (.ref b82) at_93 rfl rfl 95 rfl ?_
          refine own_aload X hx hby (.ref b82) at_95 rfl rfl 97 rfl ?_
          refine own_callV X hx hby hZ (st := []) [(.ref b82)] rfl hown (hw _ (List.mem_of_getElem? (i := 13) rfl)) (hw _ (List.mem_of_getElem? (i := 14) rfl)) (hw _ (List.mem_of_getElem? (i := 16) rfl)) (hw _ (List.mem_of_getElem? (i := 15) rfl)) (hw _ (List.mem_of_getElem? (i := 2) rfl)) (hw _ (List.mem_of_getElem? (i := 17) rfl)) E_b82 (by decide) at_97 (rm3_d l Z a0 hw b82 b82 p1 p1 p2 p2 h88 n0 Zs E_b82 F_length_b82 F_length_b82 F_distinctTerms_b82 F_distinctTerms_b82) eT pd_4 rfl (by rw [hml]; rfl) (by decide) 0 rfl (by decide) (by decide) (by decide) 100 rfl ?_
          intro T97 L9 v9 X hQ
          obtain ⟨rfl, N9, eT⟩ := hQ
          have N := Fr.app N N9
          show Go p e below _ T97 (mkF m 100 #[.val (.int p1), .val (.int p2), .val (.int p3), .val (.int p4), .val (.int p5), .val (.int v5), .val (.int v71), .val (.int v80), .val (.ref b82), .unset, .unset, .unset, .unset] [(.int (f3_d p1 p1 p2 p2))])
          obtain ⟨v100, e100⟩ : ∃ z : Int32, (f3_d p1 p1 p2 p2) = z := ⟨_, rfl⟩
          refine own_istore X hx hby at_100 e100 (l' := #[.val (.int p1), .val (.int p2), .val (.int p3), .val (.int p4), .val (.int p5), .val (.int v5), .val (.int v71), .val (.int v80), .val (.ref b82), .val (.int v100), .unset, .unset, .unset]) rfl 102 rfl ?_
          refine own_iload X hx hby p5 at_102 rfl 104 rfl ?_
          refine own_iconst X hx hby (5 : Int32) at_104 rfl 105 rfl ?_
          refine own_ishr X hx hby at_105 106 rfl ?_
          refine own_iconst X hx hby (3 : Int32) at_106 rfl 107 rfl ?_
          refine own_iand X hx hby at_107 108 rfl ?_
          obtain ⟨v108, e108⟩ : ∃ z : Int32, ((p5 >>> ((5 : Int32) &&& 31)) &&& (3 : Int32)) = z := ⟨_, rfl⟩
          refine own_istore X hx hby at_108 e108 (l' := #[.val (.int p1), .val (.int p2), .val (.int p3), .val (.int p4), .val (.int p5), .val (.int v5), .val (.int v71), .val (.int v80), .val (.ref b82), .val (.int v100), .val (.int v108), .unset, .unset]) rfl 110 rfl ?_
          refine own_iload X hx hby v108 at_110 rfl 112 rfl ?_
          refine own_if_ne X hx hby at_112 135 115 (by decide) rfl (fun c112 => ?_) (fun c112 => ?_)
          · skip
            refine own_iload X hx hby v108 at_135 rfl 137 rfl ?_
            refine own_iconst X hx hby (1 : Int32) at_137 rfl 138 rfl ?_
            refine own_icmp_ne X hx hby at_138 168 141 (by decide) rfl (fun c138 => ?_) (fun c138 => ?_)
            · skip
              refine own_new X hx hby hZ hown (hw _ (List.mem_of_getElem? (i := 0) rfl)) (hw _ (List.mem_of_getElem? (i := 1) rfl)) (hw _ (List.mem_of_getElem? (i := 2) rfl)) eT at_168 (by decide) (by decide) 171 rfl ?_
              intro T168 h168 b168 gb168 X eT Ex A D
              have g_b168 : n0 ≤ b168 := by rw [gb168]; exact Zs
              have sz_b168 : h0.size ≤ b168 := by rw [gb168]; exact K.1
              have ne_b82_b168 : b82 ≠ b168 := Nat.ne_of_lt (by rw [gb168]; exact E_b82.lt)
              have E_b82 := E_b82.ext Ex
              have F_length_b82 := F_length_b82.ext Ex
              have F_distinctTerms_b82 := F_distinctTerms_b82.ext Ex
              have E_b168 := A
              have F_length_b168 : Fld Z h168 b168 "com/example/rank_by_likelihood/rankbylikelihood/model/DocumentStatistics" "length" "I" (.int (0 : Int32)) := D (Or.inr (hw _ (List.mem_of_getElem? (i := 10) rfl))) (ty := .int) (by decide)
              have F_distinctTerms_b168 : Fld Z h168 b168 "com/example/rank_by_likelihood/rankbylikelihood/model/DocumentStatistics" "distinctTerms" "I" (.int (0 : Int32)) := D (Or.inr (hw _ (List.mem_of_getElem? (i := 12) rfl))) (ty := .int) (by decide)
              have K := K.ext Ex
              have Zs := Nat.le_trans Zs Ex.1
              refine own_dup X hx hby at_171 rfl 172 rfl ?_
              refine own_iload X hx hby v71 at_172 rfl 174 rfl ?_
              refine own_iload X hx hby v80 at_174 rfl 176 rfl ?_
              refine own_callC X hx hby hZ (st := [(.ref b168)]) [(.int v71), (.int v80)] rfl rfl hown (hw _ (List.mem_of_getElem? (i := 3) rfl)) (hw _ (List.mem_of_getElem? (i := 4) rfl)) (hw _ (List.mem_of_getElem? (i := 2) rfl)) (hw _ (List.mem_of_getElem? (i := 5) rfl)) (by decide) at_176 (rm1 l Z a0 hw b168 v71 v80 (0 : Int32) (0 : Int32) h168 n0 Zs E_b168 F_length_b168 F_distinctTerms_b168 g_b168) eT pd_3 rfl (by rw [hml]; rfl) (by decide) 1 rfl (by decide) (by decide) (by decide) 179 rfl ?_
              intro T176 L9 v9 X hQ
              obtain ⟨h176, eT⟩ : ∃ z, T176.heap = z := ⟨_, rfl⟩
              rw [eT] at hQ
              obtain ⟨rfl, N9, Kc, E_b168, F_length_b168, F_distinctTerms_b168⟩ := hQ
              have E_b82 := E_b82.keep Kc
              have F_length_b82 := F_length_b82.keep Kc (ninS ne_b82_b168 nin0)
              have F_distinctTerms_b82 := F_distinctTerms_b82.keep Kc (ninS ne_b82_b168 nin0)
              have K := K.trans Kc (allS (Or.inr sz_b168) all0)
              have Zs := Nat.le_trans Zs Kc.1
              have N := Fr.app N N9
              show Go p e below _ T176 (mkF m 179 #[.val (.int p1), .val (.int p2), .val (.int p3), .val (.int p4), .val (.int p5), .val (.int v5), .val (.int v71), .val (.int v80), .val (.ref b82), .val (.int v100), .val (.int v108), .unset, .unset] [(.ref b168)])
              refine own_astore X hx hby at_179 rfl (l' := #[.val (.int p1), .val (.int p2), .val (.int p3), .val (.int p4), .val (.int p5), .val (.int v5), .val (.int v71), .val (.int v80), .val (.ref b82), .val (.int v100), .val (.int v108), .val (.ref b168), .unset]) rfl 181 rfl ?_
              refine own_iload X hx hby v71 at_181 rfl 183 rfl ?_
              refine own_iloadN X hx hby p1 at_183 rfl 184 rfl ?_
              have J184 : ∀ (j184_0 : Int32), j184_0 = (if v71 = p1 then (if v80 = p2 then (1 : Int32) else (0 : Int32)) else (0 : Int32)) → Go p e below (FinQ s (Q0 Z p1 p2 p3 p4 p5 u_cache fc h0 n0) room_1.cells room_1.slots) T176 (mkF m 198 #[.val (.int p1), .val (.int p2), .val (.int p3), .val (.int p4), .val (.int p5), .val (.int v5), .val (.int v71), .val (.int v80), .val (.ref b82), .val (.int v100), .val (.int v108), .val (.ref b168), .unset] [(.int j184_0)]) := by
                intro j184_0 ej184_0
                refine own_istore X hx hby at_198 rfl (l' := #[.val (.int p1), .val (.int p2), .val (.int p3), .val (.int p4), .val (.int p5), .val (.int v5), .val (.int v71), .val (.int v80), .val (.ref b82), .val (.int v100), .val (.int v108), .val (.ref b168), .val (.int j184_0)]) rfl 200 rfl ?_
                refine own_iload X hx hby v100 at_200 rfl 202 rfl ?_
                have c202 : ¬ v100 = (0 : Int32) := by rw [← e100]; rw [own_self]; decide
                refine own_if_eq X hx hby at_202 233 205 (by decide) rfl (fun q => absurd q c202) (fun _ => ?_)
                refine own_aload X hx hby (.ref b82) at_205 rfl rfl 207 rfl ?_
                refine own_aload X hx hby (.ref b168) at_207 rfl rfl 209 rfl ?_
                refine own_callV X hx hby hZ (st := []) [(.ref b168)] rfl hown (hw _ (List.mem_of_getElem? (i := 13) rfl)) (hw _ (List.mem_of_getElem? (i := 14) rfl)) (hw _ (List.mem_of_getElem? (i := 16) rfl)) (hw _ (List.mem_of_getElem? (i := 15) rfl)) (hw _ (List.mem_of_getElem? (i := 2) rfl)) (hw _ (List.mem_of_getElem? (i := 17) rfl)) E_b82 (by decide) at_209 (rm3_d l Z a0 hw b82 b168 v71 p1 v80 p2 h176 n0 Zs E_b168 F_length_b168 F_length_b82 F_distinctTerms_b168 F_distinctTerms_b82) eT pd_4 rfl (by rw [hml]; rfl) (by decide) 0 rfl (by decide) (by decide) (by decide) 212 rfl ?_
                intro T209 L9 v9 X hQ
                obtain ⟨rfl, N9, eT⟩ := hQ
                have N := Fr.app N N9
                show Go p e below _ T209 (mkF m 212 #[.val (.int p1), .val (.int p2), .val (.int p3), .val (.int p4), .val (.int p5), .val (.int v5), .val (.int v71), .val (.int v80), .val (.ref b82), .val (.int v100), .val (.int v108), .val (.ref b168), .val (.int j184_0)] [(.int (f3_d v71 p1 v80 p2))])
                refine own_iload X hx hby j184_0 at_212 rfl 214 rfl ?_
                have c214 : (f3_d v71 p1 v80 p2) = j184_0 := own_eq1 _ _ _ _ _ ej184_0
                refine own_icmp_ne X hx hby at_214 233 217 (by decide) rfl (fun q => absurd c214 q) (fun _ => ?_)
                refine own_aload X hx hby (.ref b168) at_217 rfl rfl 219 rfl ?_
                refine own_aload X hx hby (.ref b82) at_219 rfl rfl 221 rfl ?_
                refine own_callV X hx hby hZ (st := []) [(.ref b82)] rfl hown (hw _ (List.mem_of_getElem? (i := 13) rfl)) (hw _ (List.mem_of_getElem? (i := 14) rfl)) (hw _ (List.mem_of_getElem? (i := 16) rfl)) (hw _ (List.mem_of_getElem? (i := 15) rfl)) (hw _ (List.mem_of_getElem? (i := 2) rfl)) (hw _ (List.mem_of_getElem? (i := 17) rfl)) E_b168 (by decide) at_221 (rm3_d l Z a0 hw b168 b82 p1 v71 p2 v80 h176 n0 Zs E_b82 F_length_b82 F_length_b168 F_distinctTerms_b82 F_distinctTerms_b168) eT pd_4 rfl (by rw [hml]; rfl) (by decide) 0 rfl (by decide) (by decide) (by decide) 224 rfl ?_
                intro T221 L9 v9 X hQ
                obtain ⟨rfl, N9, eT⟩ := hQ
                have N := Fr.app N N9
                show Go p e below _ T221 (mkF m 224 #[.val (.int p1), .val (.int p2), .val (.int p3), .val (.int p4), .val (.int p5), .val (.int v5), .val (.int v71), .val (.int v80), .val (.ref b82), .val (.int v100), .val (.int v108), .val (.ref b168), .val (.int j184_0)] [(.int (f3_d p1 v71 p2 v80))])
                refine own_iload X hx hby j184_0 at_224 rfl 226 rfl ?_
                have c226 : (f3_d p1 v71 p2 v80) = j184_0 := own_eq2 _ _ _ _ _ ej184_0
                refine own_icmp_ne X hx hby at_226 233 229 (by decide) rfl (fun q => absurd c226 q) (fun _ => ?_)
                refine own_iconst X hx hby (1 : Int32) at_229 rfl 230 rfl ?_
                refine own_goto X hx hby at_230 234 (by decide) ?_
                refine own_retN X hx hby hret hlk (t := .boolean) (z' := (1 : Int32)) (by simp) at_234 (by decide) (by decide) rfl ?_
                rw [eT]
                exact ⟨rfl, N⟩
              refine own_icmp_ne X hx hby at_184 197 187 (by decide) rfl (fun c184 => ?_) (fun c184 => ?_)
              · skip
                refine own_iconst X hx hby (0 : Int32) at_197 rfl 198 rfl ?_
                exact J184 _ (by rw [if_neg c184])
              · skip
                refine own_iload X hx hby v80 at_187 rfl 189 rfl ?_
                refine own_iloadN X hx hby p2 at_189 rfl 190 rfl ?_
                refine own_icmp_ne X hx hby at_190 197 193 (by decide) rfl (fun c190 => ?_) (fun c190 => ?_)
                · skip
                  refine own_iconst X hx hby (0 : Int32) at_197 rfl 198 rfl ?_
                  exact J184 _ (by rw [if_pos c184, if_neg c190])
                · skip
                  refine own_iconst X hx hby (1 : Int32) at_193 rfl 194 rfl ?_
                  refine own_goto X hx hby at_194 198 (by decide) ?_
                  exact J184 _ (by rw [if_pos c184, if_pos c190])
            · skip
              refine own_iloadN X hx hby p1 at_141 rfl 142 rfl ?_
              refine own_callS X hx hby hZ (st := []) [(.int p1)] rfl hown (hw _ (List.mem_of_getElem? (i := 20) rfl)) (hw _ (List.mem_of_getElem? (i := 21) rfl)) (hw _ (List.mem_of_getElem? (i := 22) rfl)) (hw _ (List.mem_of_getElem? (i := 23) rfl)) (by decide) at_142 (rm4 l Z a0 hw p1 u_cache fc h88 n0 Zs (A_cache.ext (own_ext0 K)) (fun i hi => by obtain ⟨r, h1, h2⟩ := hfc i hi; exact ⟨r, h1, h2.ext (own_ext0 K)⟩) (S_high.ext (own_ext0 K)) (S_cache.ext (own_ext0 K))) eT pd_1 rfl (by rw [hml]; rfl) (by decide) 0 rfl (by decide) (by decide) (by decide) 145 rfl ?_
              intro T142 L9 v9 X hQ
              obtain ⟨h142, eT⟩ : ∃ z, T142.heap = z := ⟨_, rfl⟩
              rw [eT] at hQ
              have lt_b82 := E_b82.lt
              obtain ⟨b142rr, rfl, N9, Kc, E_b142rr⟩ := hQ
              have E_b82 := E_b82.keep Kc
              have F_length_b82 := F_length_b82.keep Kc nin0
              have F_distinctTerms_b82 := F_distinctTerms_b82.keep Kc nin0
              have K := K.trans Kc all0
              have Zs := Nat.le_trans Zs Kc.1
              have N := Fr.app N N9
              show Go p e below _ T142 (mkF m 145 #[.val (.int p1), .val (.int p2), .val (.int p3), .val (.int p4), .val (.int p5), .val (.int v5), .val (.int v71), .val (.int v80), .val (.ref b82), .val (.int v100), .val (.int v108), .unset, .unset] [(.ref b142rr)])
              refine own_astore X hx hby at_145 rfl (l' := #[.val (.int p1), .val (.int p2), .val (.int p3), .val (.int p4), .val (.int p5), .val (.int v5), .val (.int v71), .val (.int v80), .val (.ref b82), .val (.int v100), .val (.int v108), .val (.ref b142rr), .unset]) rfl 147 rfl ?_
              refine own_iload X hx hby v100 at_147 rfl 149 rfl ?_
              have c149 : ¬ v100 = (0 : Int32) := by rw [← e100]; rw [own_self]; decide
              refine own_if_eq X hx hby at_149 166 152 (by decide) rfl (fun q => absurd q c149) (fun _ => ?_)
              refine own_aload X hx hby (.ref b82) at_152 rfl rfl 154 rfl ?_
              refine own_aload X hx hby (.ref b142rr) at_154 rfl rfl 156 rfl ?_
              refine own_callV X hx hby hZ (st := []) [(.ref b142rr)] rfl hown (hw _ (List.mem_of_getElem? (i := 13) rfl)) (hw _ (List.mem_of_getElem? (i := 14) rfl)) (hw _ (List.mem_of_getElem? (i := 16) rfl)) (hw _ (List.mem_of_getElem? (i := 15) rfl)) (hw _ (List.mem_of_getElem? (i := 2) rfl)) (hw _ (List.mem_of_getElem? (i := 17) rfl)) E_b82 (by decide) at_156 (rm3_i l Z a0 hw b82 b142rr h142 n0 Zs E_b142rr) eT pd_4 rfl (by rw [hml]; rfl) (by decide) 0 rfl (by decide) (by decide) (by decide) 159 rfl ?_
              intro T156 L9 v9 X hQ
              obtain ⟨rfl, N9, eT⟩ := hQ
              have N := Fr.app N N9
              show Go p e below _ T156 (mkF m 159 #[.val (.int p1), .val (.int p2), .val (.int p3), .val (.int p4), .val (.int p5), .val (.int v5), .val (.int v71), .val (.int v80), .val (.ref b82), .val (.int v100), .val (.int v108), .val (.ref b142rr), .unset] [(.int (0 : Int32))])
              have c159 : (0 : Int32) = (0 : Int32) := rfl
              refine own_if_ne X hx hby at_159 166 162 (by decide) rfl (fun q => absurd c159 q) (fun _ => ?_)
              refine own_iconst X hx hby (1 : Int32) at_162 rfl 163 rfl ?_
              refine own_goto X hx hby at_163 167 (by decide) ?_
              refine own_retN X hx hby hret hlk (t := .boolean) (z' := (1 : Int32)) (by simp) at_167 (by decide) (by decide) rfl ?_
              rw [eT]
              exact ⟨rfl, N⟩
          · skip
            refine own_iload X hx hby v100 at_115 rfl 117 rfl ?_
            have c117 : ¬ v100 = (0 : Int32) := by rw [← e100]; rw [own_self]; decide
            refine own_if_eq X hx hby at_117 133 120 (by decide) rfl (fun q => absurd q c117) (fun _ => ?_)
            refine own_aload X hx hby (.ref b82) at_120 rfl rfl 122 rfl ?_
            refine own_aconstNull X hx hby at_122 123 rfl ?_
            refine own_callV X hx hby hZ (st := []) [.null] rfl hown (hw _ (List.mem_of_getElem? (i := 13) rfl)) (hw _ (List.mem_of_getElem? (i := 14) rfl)) (hw _ (List.mem_of_getElem? (i := 16) rfl)) (hw _ (List.mem_of_getElem? (i := 15) rfl)) (hw _ (List.mem_of_getElem? (i := 2) rfl)) (hw _ (List.mem_of_getElem? (i := 17) rfl)) E_b82 (by decide) at_123 (rm3_n l Z a0 hw b82 h88 n0 Zs ) eT pd_4 rfl (by rw [hml]; rfl) (by decide) 0 rfl (by decide) (by decide) (by decide) 126 rfl ?_
            intro T123 L9 v9 X hQ
            obtain ⟨rfl, N9, eT⟩ := hQ
            have N := Fr.app N N9
            show Go p e below _ T123 (mkF m 126 #[.val (.int p1), .val (.int p2), .val (.int p3), .val (.int p4), .val (.int p5), .val (.int v5), .val (.int v71), .val (.int v80), .val (.ref b82), .val (.int v100), .val (.int v108), .unset, .unset] [(.int (0 : Int32))])
            have c126 : (0 : Int32) = (0 : Int32) := rfl
            refine own_if_ne X hx hby at_126 133 129 (by decide) rfl (fun q => absurd c126 q) (fun _ => ?_)
            refine own_iconst X hx hby (1 : Int32) at_129 rfl 130 rfl ?_
            refine own_goto X hx hby at_130 134 (by decide) ?_
            refine own_retN X hx hby hret hlk (t := .boolean) (z' := (1 : Int32)) (by simp) at_134 (by decide) (by decide) rfl ?_
            rw [eT]
            exact ⟨rfl, N⟩
      · skip
        refine own_iloadN X hx hby p2 at_45 rfl 46 rfl ?_
        refine own_istore X hx hby at_46 rfl (l' := #[.val (.int p1), .val (.int p2), .val (.int p3), .val (.int p4), .val (.int p5), .val (.int v5), .val (.int p3), .val (.int p2), .unset, .unset, .unset, .unset, .unset]) rfl 48 rfl ?_
        refine own_goto X hx hby at_48 82 (by decide) ?_
        refine own_new X hx hby hZ hown (hw _ (List.mem_of_getElem? (i := 0) rfl)) (hw _ (List.mem_of_getElem? (i := 1) rfl)) (hw _ (List.mem_of_getElem? (i := 2) rfl)) eT at_82 (by decide) (by decide) 85 rfl ?_
        intro T82 h82 b82 gb82 X eT Ex A D
        have g_b82 : n0 ≤ b82 := by rw [gb82]; exact Zs
        have sz_b82 : h0.size ≤ b82 := by rw [gb82]; exact K.1
        have E_b82 := A
        have F_length_b82 : Fld Z h82 b82 "com/example/rank_by_likelihood/rankbylikelihood/model/DocumentStatistics" "length" "I" (.int (0 : Int32)) := D (Or.inr (hw _ (List.mem_of_getElem? (i := 10) rfl))) (ty := .int) (by decide)
        have F_distinctTerms_b82 : Fld Z h82 b82 "com/example/rank_by_likelihood/rankbylikelihood/model/DocumentStatistics" "distinctTerms" "I" (.int (0 : Int32)) := D (Or.inr (hw _ (List.mem_of_getElem? (i := 12) rfl))) (ty := .int) (by decide)
        have K := K.ext Ex
        have Zs := Nat.le_trans Zs Ex.1
        refine own_dup X hx hby at_85 rfl 86 rfl ?_
        refine own_iloadN X hx hby p1 at_86 rfl 87 rfl ?_
        refine own_iloadN X hx hby p2 at_87 rfl 88 rfl ?_
        refine own_callC X hx hby hZ (st := [(.ref b82)]) [(.int p1), (.int p2)] rfl rfl hown (hw _ (List.mem_of_getElem? (i := 3) rfl)) (hw _ (List.mem_of_getElem? (i := 4) rfl)) (hw _ (List.mem_of_getElem? (i := 2) rfl)) (hw _ (List.mem_of_getElem? (i := 5) rfl)) (by decide) at_88 (rm1 l Z a0 hw b82 p1 p2 (0 : Int32) (0 : Int32) h82 n0 Zs E_b82 F_length_b82 F_distinctTerms_b82 g_b82) eT pd_3 rfl (by rw [hml]; rfl) (by decide) 1 rfl (by decide) (by decide) (by decide) 91 rfl ?_
        intro T88 L9 v9 X hQ
        obtain ⟨h88, eT⟩ : ∃ z, T88.heap = z := ⟨_, rfl⟩
        rw [eT] at hQ
        obtain ⟨rfl, N9, Kc, E_b82, F_length_b82, F_distinctTerms_b82⟩ := hQ
        have K := K.trans Kc (allS (Or.inr sz_b82) all0)
        have Zs := Nat.le_trans Zs Kc.1
        have N := Fr.app N N9
        show Go p e below _ T88 (mkF m 91 #[.val (.int p1), .val (.int p2), .val (.int p3), .val (.int p4), .val (.int p5), .val (.int v5), .val (.int p3), .val (.int p2), .unset, .unset, .unset, .unset, .unset] [(.ref b82)])
        refine own_astore X hx hby at_91 rfl (l' := #[.val (.int p1), .val (.int p2), .val (.int p3), .val (.int p4), .val (.int p5), .val (.int v5), .val (.int p3), .val (.int p2), .val (.ref b82), .unset, .unset, .unset, .unset]) rfl 93 rfl ?_
        refine own_aload X hx hby (.ref b82) at_93 rfl rfl 95 rfl ?_
        refine own_aload X hx hby (.ref b82) at_95 rfl rfl 97 rfl ?_
        refine own_callV X hx hby hZ (st := []) [(.ref b82)] rfl hown (hw _ (List.mem_of_getElem? (i := 13) rfl)) (hw _ (List.mem_of_getElem? (i := 14) rfl)) (hw _ (List.mem_of_getElem? (i := 16) rfl)) (hw _ (List.mem_of_getElem? (i := 15) rfl)) (hw _ (List.mem_of_getElem? (i := 2) rfl)) (hw _ (List.mem_of_getElem? (i := 17) rfl)) E_b82 (by decide) at_97 (rm3_d l Z a0 hw b82 b82 p1 p1 p2 p2 h88 n0 Zs E_b82 F_length_b82 F_length_b82 F_distinctTerms_b82 F_distinctTerms_b82) eT pd_4 rfl (by rw [hml]; rfl) (by decide) 0 rfl (by decide) (by decide) (by decide) 100 rfl ?_
        intro T97 L9 v9 X hQ
        obtain ⟨rfl, N9, eT⟩ := hQ
        have N := Fr.app N N9
        show Go p e below _ T97 (mkF m 100 #[.val (.int p1), .val (.int p2), .val (.int p3), .val (.int p4), .val (.int p5), .val (.int v5), .val (.int p3), .val (.int p2), .val (.ref b82), .unset, .unset, .unset, .unset] [(.int (f3_d p1 p1 p2 p2))])
        obtain ⟨v100, e100⟩ : ∃ z : Int32, (f3_d p1 p1 p2 p2) = z := ⟨_, rfl⟩
        refine own_istore X hx hby at_100 e100 (l' := #[.val (.int p1), .val (.int p2), .val (.int p3), .val (.int p4), .val (.int p5), .val (.int v5), .val (.int p3), .val (.int p2), .val (.ref b82), .val (.int v100), .unset, .unset, .unset]) rfl 102 rfl ?_
        refine own_iload X hx hby p5 at_102 rfl 104 rfl ?_
        refine own_iconst X hx hby (5 : Int32) at_104 rfl 105 rfl ?_
        refine own_ishr X hx hby at_105 106 rfl ?_
        refine own_iconst X hx hby (3 : Int32) at_106 rfl 107 rfl ?_
        refine own_iand X hx hby at_107 108 rfl ?_
        obtain ⟨v108, e108⟩ : ∃ z : Int32, ((p5 >>> ((5 : Int32) &&& 31)) &&& (3 : Int32)) = z := ⟨_, rfl⟩
        refine own_istore X hx hby at_108 e108 (l' := #[.val (.int p1), .val (.int p2), .val (.int p3), .val (.int p4), .val (.int p5), .val (.int v5), .val (.int p3), .val (.int p2), .val (.ref b82), .val (.int v100), .val (.int v108), .unset, .unset]) rfl 110 rfl ?_
        refine own_iload X hx hby v108 at_110 rfl 112 rfl ?_
        refine own_if_ne X hx hby at_112 135 115 (by decide) rfl (fun c112 => ?_) (fun c112 => ?_)
        · skip
          refine own_iload X hx hby v108 at_135 rfl 137 rfl ?_
          refine own_iconst X hx hby (1 : Int32) at_137 rfl 138 rfl ?_
          refine own_icmp_ne X hx hby at_138 168 141 (by decide) rfl (fun c138 => ?_) (fun c138 => ?_)
          · skip
            refine own_new X hx hby hZ hown (hw _ (List.mem_of_getElem? (i := 0) rfl)) (hw _ (List.mem_of_getElem? (i := 1) rfl)) (hw _ (List.mem_of_getElem? (i := 2) rfl)) eT at_168 (by decide) (by decide) 171 rfl ?_
            intro T168 h168 b168 gb168 X eT Ex A D
            have g_b168 : n0 ≤ b168 := by rw [gb168]; exact Zs
            have sz_b168 : h0.size ≤ b168 := by rw [gb168]; exact K.1
            have ne_b82_b168 : b82 ≠ b168 := Nat.ne_of_lt (by rw [gb168]; exact E_b82.lt)
            have E_b82 := E_b82.ext Ex
            have F_length_b82 := F_length_b82.ext Ex
            have F_distinctTerms_b82 := F_distinctTerms_b82.ext Ex
            have E_b168 := A
            have F_length_b168 : Fld Z h168 b168 "com/example/rank_by_likelihood/rankbylikelihood/model/DocumentStatistics" "length" "I" (.int (0 : Int32)) := D (Or.inr (hw _ (List.mem_of_getElem? (i := 10) rfl))) (ty := .int) (by decide)
            have F_distinctTerms_b168 : Fld Z h168 b168 "com/example/rank_by_likelihood/rankbylikelihood/model/DocumentStatistics" "distinctTerms" "I" (.int (0 : Int32)) := D (Or.inr (hw _ (List.mem_of_getElem? (i := 12) rfl))) (ty := .int) (by decide)
            have K := K.ext Ex
            have Zs := Nat.le_trans Zs Ex.1
            refine own_dup X hx hby at_171 rfl 172 rfl ?_
            refine own_iload X hx hby p3 at_172 rfl 174 rfl ?_
            refine own_iload X hx hby p2 at_174 rfl 176 rfl ?_
            refine own_callC X hx hby hZ (st := [(.ref b168)]) [(.int p3), (.int p2)] rfl rfl hown (hw _ (List.mem_of_getElem? (i := 3) rfl)) (hw _ (List.mem_of_getElem? (i := 4) rfl)) (hw _ (List.mem_of_getElem? (i := 2) rfl)) (hw _ (List.mem_of_getElem? (i := 5) rfl)) (by decide) at_176 (rm1 l Z a0 hw b168 p3 p2 (0 : Int32) (0 : Int32) h168 n0 Zs E_b168 F_length_b168 F_distinctTerms_b168 g_b168) eT pd_3 rfl (by rw [hml]; rfl) (by decide) 1 rfl (by decide) (by decide) (by decide) 179 rfl ?_
            intro T176 L9 v9 X hQ
            obtain ⟨h176, eT⟩ : ∃ z, T176.heap = z := ⟨_, rfl⟩
            rw [eT] at hQ
            obtain ⟨rfl, N9, Kc, E_b168, F_length_b168, F_distinctTerms_b168⟩ := hQ
            have E_b82 := E_b82.keep Kc
            have F_length_b82 := F_length_b82.keep Kc (ninS ne_b82_b168 nin0)
            have F_distinctTerms_b82 := F_distinctTerms_b82.keep Kc (ninS ne_b82_b168 nin0)
            have K := K.trans Kc (allS (Or.inr sz_b168) all0)
            have Zs := Nat.le_trans Zs Kc.1
            have N := Fr.app N N9
            show Go p e below _ T176 (mkF m 179 #[.val (.int p1), .val (.int p2), .val (.int p3), .val (.int p4), .val (.int p5), .val (.int v5), .val (.int p3), .val (.int p2), .val (.ref b82), .val (.int v100), .val (.int v108), .unset, .unset] [(.ref b168)])
            refine own_astore X hx hby at_179 rfl (l' := #[.val (.int p1), .val (.int p2), .val (.int p3), .val (.int p4), .val (.int p5), .val (.int v5), .val (.int p3), .val (.int p2), .val (.ref b82), .val (.int v100), .val (.int v108), .val (.ref b168), .unset]) rfl 181 rfl ?_
            refine own_iload X hx hby p3 at_181 rfl 183 rfl ?_
            refine own_iloadN X hx hby p1 at_183 rfl 184 rfl ?_
            have J184 : ∀ (j184_0 : Int32), j184_0 = (if p3 = p1 then (if p2 = p2 then (1 : Int32) else (0 : Int32)) else (0 : Int32)) → Go p e below (FinQ s (Q0 Z p1 p2 p3 p4 p5 u_cache fc h0 n0) room_1.cells room_1.slots) T176 (mkF m 198 #[.val (.int p1), .val (.int p2), .val (.int p3), .val (.int p4), .val (.int p5), .val (.int v5), .val (.int p3), .val (.int p2), .val (.ref b82), .val (.int v100), .val (.int v108), .val (.ref b168), .unset] [(.int j184_0)]) := by
              intro j184_0 ej184_0
              refine own_istore X hx hby at_198 rfl (l' := #[.val (.int p1), .val (.int p2), .val (.int p3), .val (.int p4), .val (.int p5), .val (.int v5), .val (.int p3), .val (.int p2), .val (.ref b82), .val (.int v100), .val (.int v108), .val (.ref b168), .val (.int j184_0)]) rfl 200 rfl ?_
              refine own_iload X hx hby v100 at_200 rfl 202 rfl ?_
              have c202 : ¬ v100 = (0 : Int32) := by rw [← e100]; rw [own_self]; decide
              refine own_if_eq X hx hby at_202 233 205 (by decide) rfl (fun q => absurd q c202) (fun _ => ?_)
              refine own_aload X hx hby (.ref b82) at_205 rfl rfl 207 rfl ?_
              refine own_aload X hx hby (.ref b168) at_207 rfl rfl 209 rfl ?_
              refine own_callV X hx hby hZ (st := []) [(.ref b168)] rfl hown (hw _ (List.mem_of_getElem? (i := 13) rfl)) (hw _ (List.mem_of_getElem? (i := 14) rfl)) (hw _ (List.mem_of_getElem? (i := 16) rfl)) (hw _ (List.mem_of_getElem? (i := 15) rfl)) (hw _ (List.mem_of_getElem? (i := 2) rfl)) (hw _ (List.mem_of_getElem? (i := 17) rfl)) E_b82 (by decide) at_209 (rm3_d l Z a0 hw b82 b168 p3 p1 p2 p2 h176 n0 Zs E_b168 F_length_b168 F_length_b82 F_distinctTerms_b168 F_distinctTerms_b82) eT pd_4 rfl (by rw [hml]; rfl) (by decide) 0 rfl (by decide) (by decide) (by decide) 212 rfl ?_
              intro T209 L9 v9 X hQ
              obtain ⟨rfl, N9, eT⟩ := hQ
              have N := Fr.app N N9
              show Go p e below _ T209 (mkF m 212 #[.val (.int p1), .val (.int p2), .val (.int p3), .val (.int p4), .val (.int p5), .val (.int v5), .val (.int p3), .val (.int p2), .val (.ref b82), .val (.int v100), .val (.int v108), .val (.ref b168), .val (.int j184_0)] [(.int (f3_d p3 p1 p2 p2))])
              refine own_iload X hx hby j184_0 at_212 rfl 214 rfl ?_
              have c214 : (f3_d p3 p1 p2 p2) = j184_0 := own_eq1 _ _ _ _ _ ej184_0
              refine own_icmp_ne X hx hby at_214 233 217 (by decide) rfl (fun q => absurd c214 q) (fun _ => ?_)
              refine own_aload X hx hby (.ref b168) at_217 rfl rfl 219 rfl ?_
              refine own_aload X hx hby (.ref b82) at_219 rfl rfl 221 rfl ?_
              refine own_callV X hx hby hZ (st := []) [(.ref b82)] rfl hown (hw _ (List.mem_of_getElem? (i := 13) rfl)) (hw _ (List.mem_of_getElem? (i := 14) rfl)) (hw _ (List.mem_of_getElem? (i := 16) rfl)) (hw _ (List.mem_of_getElem? (i := 15) rfl)) (hw _ (List.mem_of_getElem? (i := 2) rfl)) (hw _ (List.mem_of_getElem? (i := 17) rfl)) E_b168 (by decide) at_221 (rm3_d l Z a0 hw b168 b82 p1 p3 p2 p2 h176 n0 Zs E_b82 F_length_b82 F_length_b168 F_distinctTerms_b82 F_distinctTerms_b168) eT pd_4 rfl (by rw [hml]; rfl) (by decide) 0 rfl (by decide) (by decide) (by decide) 224 rfl ?_
              intro T221 L9 v9 X hQ
              obtain ⟨rfl, N9, eT⟩ := hQ
              have N := Fr.app N N9
              show Go p e below _ T221 (mkF m 224 #[.val (.int p1), .val (.int p2), .val (.int p3), .val (.int p4), .val (.int p5), .val (.int v5), .val (.int p3), .val (.int p2), .val (.ref b82), .val (.int v100), .val (.int v108), .val (.ref b168), .val (.int j184_0)] [(.int (f3_d p1 p3 p2 p2))])
              refine own_iload X hx hby j184_0 at_224 rfl 226 rfl ?_
              have c226 : (f3_d p1 p3 p2 p2) = j184_0 := own_eq2 _ _ _ _ _ ej184_0
              refine own_icmp_ne X hx hby at_226 233 229 (by decide) rfl (fun q => absurd c226 q) (fun _ => ?_)
              refine own_iconst X hx hby (1 : Int32) at_229 rfl 230 rfl ?_
              refine own_goto X hx hby at_230 234 (by decide) ?_
              refine own_retN X hx hby hret hlk (t := .boolean) (z' := (1 : Int32)) (by simp) at_234 (by decide) (by decide) rfl ?_
              rw [eT]
              exact ⟨rfl, N⟩
            refine own_icmp_ne X hx hby at_184 197 187 (by decide) rfl (fun c184 => ?_) (fun c184 => ?_)
            · skip
              refine own_iconst X hx hby (0 : Int32) at_197 rfl 198 rfl ?_
              exact J184 _ (by rw [if_neg c184])
            · skip
              refine own_iload X hx hby p2 at_187 rfl 189 rfl ?_
              refine own_iloadN X hx hby p2 at_189 rfl 190 rfl ?_
              refine own_icmp_ne X hx hby at_190 197 193 (by decide) rfl (fun c190 => ?_) (fun c190 => ?_)
              · skip
                refine own_iconst X hx hby (0 : Int32) at_197 rfl 198 rfl ?_
                exact J184 _ (by rw [if_pos c184, if_neg c190])
              · skip
                refine own_iconst X hx hby (1 : Int32) at_193 rfl 194 rfl ?_
                refine own_goto X hx hby at_194 198 (by decide) ?_
                exact J184 _ (by rw [if_pos c184, if_pos c190])
          · skip
            refine own_iloadN X hx hby p1 at_141 rfl 142 rfl ?_
            refine own_callS X hx hby hZ (st := []) [(.int p1)] rfl hown (hw _ (List.mem_of_getElem? (i := 20) rfl)) (hw _ (List.mem_of_getElem? (i := 21) rfl)) (hw _ (List.mem_of_getElem? (i := 22) rfl)) (hw _ (List.mem_of_getElem? (i := 23) rfl)) (by decide) at_142 (rm4 l Z a0 hw p1 u_cache fc h88 n0 Zs (A_cache.ext (own_ext0 K)) (fun i hi => by obtain ⟨r, h1, h2⟩ := hfc i hi; exact ⟨r, h1, h2.ext (own_ext0 K)⟩) (S_high.ext (own_ext0 K)) (S_cache.ext (own_ext0 K))) eT pd_1 rfl (by rw [hml]; rfl) (by decide) 0 rfl (by decide) (by decide) (by decide) 145 rfl ?_
            intro T142 L9 v9 X hQ
            obtain ⟨h142, eT⟩ : ∃ z, T142.heap = z := ⟨_, rfl⟩
            rw [eT] at hQ
            have lt_b82 := E_b82.lt
            obtain ⟨b142rr, rfl, N9, Kc, E_b142rr⟩ := hQ
            have E_b82 := E_b82.keep Kc
            have F_length_b82 := F_length_b82.keep Kc nin0
            have F_distinctTerms_b82 := F_distinctTerms_b82.keep Kc nin0
            have K := K.trans Kc all0
            have Zs := Nat.le_trans Zs Kc.1
            have N := Fr.app N N9
            show Go p e below _ T142 (mkF m 145 #[.val (.int p1), .val (.int p2), .val (.int p3), .val (.int p4), .val (.int p5), .val (.int v5), .val (.int p3), .val (.int p2), .val (.ref b82), .val (.int v100), .val (.int v108), .unset, .unset] [(.ref b142rr)])
            refine own_astore X hx hby at_145 rfl (l' := #[.val (.int p1), .val (.int p2), .val (.int p3), .val (.int p4), .val (.int p5), .val (.int v5), .val (.int p3), .val (.int p2), .val (.ref b82), .val (.int v100), .val (.int v108), .val (.ref b142rr), .unset]) rfl 147 rfl ?_
            refine own_iload X hx hby v100 at_147 rfl 149 rfl ?_
            have c149 : ¬ v100 = (0 : Int32) := by rw [← e100]; rw [own_self]; decide
            refine own_if_eq X hx hby at_149 166 152 (by decide) rfl (fun q => absurd q c149) (fun _ => ?_)
            refine own_aload X hx hby (.ref b82) at_152 rfl rfl 154 rfl ?_
            refine own_aload X hx hby (.ref b142rr) at_154 rfl rfl 156 rfl ?_
            refine own_callV X hx hby hZ (st := []) [(.ref b142rr)] rfl hown (hw _ (List.mem_of_getElem? (i := 13) rfl)) (hw _ (List.mem_of_getElem? (i := 14) rfl)) (hw _ (List.mem_of_getElem? (i := 16) rfl)) (hw _ (List.mem_of_getElem? (i := 15) rfl)) (hw _ (List.mem_of_getElem? (i := 2) rfl)) (hw _ (List.mem_of_getElem? (i := 17) rfl)) E_b82 (by decide) at_156 (rm3_i l Z a0 hw b82 b142rr h142 n0 Zs E_b142rr) eT pd_4 rfl (by rw [hml]; rfl) (by decide) 0 rfl (by decide) (by decide) (by decide) 159 rfl ?_
            intro T156 L9 v9 X hQ
            obtain ⟨rfl, N9, eT⟩ := hQ
            have N := Fr.app N N9
            show Go p e below _ T156 (mkF m 159 #[.val (.int p1), .val (.int p2), .val (.int p3), .val (.int p4), .val (.int p5), .val (.int v5), .val (.int p3), .val (.int p2), .val (.ref b82), .val (.int v100), .val (.int v108), .val (.ref b142rr), .unset] [(.int (0 : Int32))])
            have c159 : (0 : Int32) = (0 : Int32) := rfl
            refine own_if_ne X hx hby at_159 166 162 (by decide) rfl (fun q => absurd c159 q) (fun _ => ?_)
            refine own_iconst X hx hby (1 : Int32) at_162 rfl 163 rfl ?_
            refine own_goto X hx hby at_163 167 (by decide) ?_
            refine own_retN X hx hby hret hlk (t := .boolean) (z' := (1 : Int32)) (by simp) at_167 (by decide) (by decide) rfl ?_
            rw [eT]
            exact ⟨rfl, N⟩
        · skip
          refine own_iload X hx hby v100 at_115 rfl 117 rfl ?_
          have c117 : ¬ v100 = (0 : Int32) := by rw [← e100]; rw [own_self]; decide
          refine own_if_eq X hx hby at_117 133 120 (by decide) rfl (fun q => absurd q c117) (fun _ => ?_)
          refine own_aload X hx hby (.ref b82) at_120 rfl rfl 122 rfl ?_
          refine own_aconstNull X hx hby at_122 123 rfl ?_
          refine own_callV X hx hby hZ (st := []) [.null] rfl hown (hw _ (List.mem_of_getElem? (i := 13) rfl)) (hw _ (List.mem_of_getElem? (i := 14) rfl)) (hw _ (List.mem_of_getElem? (i := 16) rfl)) (hw _ (List.mem_of_getElem? (i := 15) rfl)) (hw _ (List.mem_of_getElem? (i := 2) rfl)) (hw _ (List.mem_of_getElem? (i := 17) rfl)) E_b82 (by decide) at_123 (rm3_n l Z a0 hw b82 h88 n0 Zs ) eT pd_4 rfl (by rw [hml]; rfl) (by decide) 0 rfl (by decide) (by decide) (by decide) 126 rfl ?_
          intro T123 L9 v9 X hQ
          obtain ⟨rfl, N9, eT⟩ := hQ
          have N := Fr.app N N9
          show Go p e below _ T123 (mkF m 126 #[.val (.int p1), .val (.int p2), .val (.int p3), .val (.int p4), .val (.int p5), .val (.int v5), .val (.int p3), .val (.int p2), .val (.ref b82), .val (.int v100), .val (.int v108), .unset, .unset] [(.int (0 : Int32))])
          have c126 : (0 : Int32) = (0 : Int32) := rfl
          refine own_if_ne X hx hby at_126 133 129 (by decide) rfl (fun q => absurd c126 q) (fun _ => ?_)
          refine own_iconst X hx hby (1 : Int32) at_129 rfl 130 rfl ?_
          refine own_goto X hx hby at_130 134 (by decide) ?_
          refine own_retN X hx hby hret hlk (t := .boolean) (z' := (1 : Int32)) (by simp) at_134 (by decide) (by decide) rfl ?_
          rw [eT]
          exact ⟨rfl, N⟩
    · skip
      refine own_iloadN X hx hby p1 at_33 rfl 34 rfl ?_
      refine own_istore X hx hby at_34 rfl (l' := #[.val (.int p1), .val (.int p2), .val (.int p3), .val (.int p4), .val (.int p5), .val (.int v5), .val (.int p1), .val (.int p4), .unset, .unset, .unset, .unset, .unset]) rfl 36 rfl ?_
      refine own_goto X hx hby at_36 82 (by decide) ?_
      refine own_new X hx hby hZ hown (hw _ (List.mem_of_getElem? (i := 0) rfl)) (hw _ (List.mem_of_getElem? (i := 1) rfl)) (hw _ (List.mem_of_getElem? (i := 2) rfl)) eT at_82 (by decide) (by decide) 85 rfl ?_
      intro T82 h82 b82 gb82 X eT Ex A D
      have g_b82 : n0 ≤ b82 := by rw [gb82]; exact Zs
      have sz_b82 : h0.size ≤ b82 := by rw [gb82]; exact K.1
      have E_b82 := A
      have F_length_b82 : Fld Z h82 b82 "com/example/rank_by_likelihood/rankbylikelihood/model/DocumentStatistics" "length" "I" (.int (0 : Int32)) := D (Or.inr (hw _ (List.mem_of_getElem? (i := 10) rfl))) (ty := .int) (by decide)
      have F_distinctTerms_b82 : Fld Z h82 b82 "com/example/rank_by_likelihood/rankbylikelihood/model/DocumentStatistics" "distinctTerms" "I" (.int (0 : Int32)) := D (Or.inr (hw _ (List.mem_of_getElem? (i := 12) rfl))) (ty := .int) (by decide)
      have K := K.ext Ex
      have Zs := Nat.le_trans Zs Ex.1
      refine own_dup X hx hby at_85 rfl 86 rfl ?_
      refine own_iloadN X hx hby p1 at_86 rfl 87 rfl ?_
      refine own_iloadN X hx hby p2 at_87 rfl 88 rfl ?_
      refine own_callC X hx hby hZ (st := [(.ref b82)]) [(.int p1), (.int p2)] rfl rfl hown (hw _ (List.mem_of_getElem? (i := 3) rfl)) (hw _ (List.mem_of_getElem? (i := 4) rfl)) (hw _ (List.mem_of_getElem? (i := 2) rfl)) (hw _ (List.mem_of_getElem? (i := 5) rfl)) (by decide) at_88 (rm1 l Z a0 hw b82 p1 p2 (0 : Int32) (0 : Int32) h82 n0 Zs E_b82 F_length_b82 F_distinctTerms_b82 g_b82) eT pd_3 rfl (by rw [hml]; rfl) (by decide) 1 rfl (by decide) (by decide) (by decide) 91 rfl ?_
      intro T88 L9 v9 X hQ
      obtain ⟨h88, eT⟩ : ∃ z, T88.heap = z := ⟨_, rfl⟩
      rw [eT] at hQ
      obtain ⟨rfl, N9, Kc, E_b82, F_length_b82, F_distinctTerms_b82⟩ := hQ
      have K := K.trans Kc (allS (Or.inr sz_b82) all0)
      have Zs := Nat.le_trans Zs Kc.1
      have N := Fr.app N N9
      show Go p e below _ T88 (mkF m 91 #[.val (.int p1), .val (.int p2), .val (.int p3), .val (.int p4), .val (.int p5), .val (.int v5), .val (.int p1), .val (.int p4), .unset, .unset, .unset, .unset, .unset] [(.ref b82)])
      refine own_astore X hx hby at_91 rfl (l' := #[.val (.int p1), .val (.int p2), .val (.int p3), .val (.int p4), .val (.int p5), .val (.int v5), .val (.int p1), .val (.int p4), .val (.ref b82), .unset, .unset, .unset, .unset]) rfl 93 rfl ?_
      refine own_aload X hx hby (.ref b82) at_93 rfl rfl 95 rfl ?_
      refine own_aload X hx hby (.ref b82) at_95 rfl rfl 97 rfl ?_
      refine own_callV X hx hby hZ (st := []) [(.ref b82)] rfl hown (hw _ (List.mem_of_getElem? (i := 13) rfl)) (hw _ (List.mem_of_getElem? (i := 14) rfl)) (hw _ (List.mem_of_getElem? (i := 16) rfl)) (hw _ (List.mem_of_getElem? (i := 15) rfl)) (hw _ (List.mem_of_getElem? (i := 2) rfl)) (hw _ (List.mem_of_getElem? (i := 17) rfl)) E_b82 (by decide) at_97 (rm3_d l Z a0 hw b82 b82 p1 p1 p2 p2 h88 n0 Zs E_b82 F_length_b82 F_length_b82 F_distinctTerms_b82 F_distinctTerms_b82) eT pd_4 rfl (by rw [hml]; rfl) (by decide) 0 rfl (by decide) (by decide) (by decide) 100 rfl ?_
      intro T97 L9 v9 X hQ
      obtain ⟨rfl, N9, eT⟩ := hQ
      have N := Fr.app N N9
      show Go p e below _ T97 (mkF m 100 #[.val (.int p1), .val (.int p2), .val (.int p3), .val (.int p4), .val (.int p5), .val (.int v5), .val (.int p1), .val (.int p4), .val (.ref b82), .unset, .unset, .unset, .unset] [(.int (f3_d p1 p1 p2 p2))])
      obtain ⟨v100, e100⟩ : ∃ z : Int32, (f3_d p1 p1 p2 p2) = z := ⟨_, rfl⟩
      refine own_istore X hx hby at_100 e100 (l' := #[.val (.int p1), .val (.int p2), .val (.int p3), .val (.int p4), .val (.int p5), .val (.int v5), .val (.int p1), .val (.int p4), .val (.ref b82), .val (.int v100), .unset, .unset, .unset]) rfl 102 rfl ?_
      refine own_iload X hx hby p5 at_102 rfl 104 rfl ?_
      refine own_iconst X hx hby (5 : Int32) at_104 rfl 105 rfl ?_
      refine own_ishr X hx hby at_105 106 rfl ?_
      refine own_iconst X hx hby (3 : Int32) at_106 rfl 107 rfl ?_
      refine own_iand X hx hby at_107 108 rfl ?_
      obtain ⟨v108, e108⟩ : ∃ z : Int32, ((p5 >>> ((5 : Int32) &&& 31)) &&& (3 : Int32)) = z := ⟨_, rfl⟩
      refine own_istore X hx hby at_108 e108 (l' := #[.val (.int p1), .val (.int p2), .val (.int p3), .val (.int p4), .val (.int p5), .val (.int v5), .val (.int p1), .val (.int p4), .val (.ref b82), .val (.int v100), .val (.int v108), .unset, .unset]) rfl 110 rfl ?_
      refine own_iload X hx hby v108 at_110 rfl 112 rfl ?_
      refine own_if_ne X hx hby at_112 135 115 (by decide) rfl (fun c112 => ?_) (fun c112 => ?_)
      · skip
        refine own_iload X hx hby v108 at_135 rfl 137 rfl ?_
        refine own_iconst X hx hby (1 : Int32) at_137 rfl 138 rfl ?_
        refine own_icmp_ne X hx hby at_138 168 141 (by decide) rfl (fun c138 => ?_) (fun c138 => ?_)
        · skip
          refine own_new X hx hby hZ hown (hw _ (List.mem_of_getElem? (i := 0) rfl)) (hw _ (List.mem_of_getElem? (i := 1) rfl)) (hw _ (List.mem_of_getElem? (i := 2) rfl)) eT at_168 (by decide) (by decide) 171 rfl ?_
          intro T168 h168 b168 gb168 X eT Ex A D
          have g_b168 : n0 ≤ b168 := by rw [gb168]; exact Zs
          have sz_b168 : h0.size ≤ b168 := by rw [gb168]; exact K.1
          have ne_b82_b168 : b82 ≠ b168 := Nat.ne_of_lt (by rw [gb168]; exact E_b82.lt)
          have E_b82 := E_b82.ext Ex
          have F_length_b82 := F_length_b82.ext Ex
          have F_distinctTerms_b82 := F_distinctTerms_b82.ext Ex
          have E_b168 := A
          have F_length_b168 : Fld Z h168 b168 "com/example/rank_by_likelihood/rankbylikelihood/model/DocumentStatistics" "length" "I" (.int (0 : Int32)) := D (Or.inr (hw _ (List.mem_of_getElem? (i := 10) rfl))) (ty := .int) (by decide)
          have F_distinctTerms_b168 : Fld Z h168 b168 "com/example/rank_by_likelihood/rankbylikelihood/model/DocumentStatistics" "distinctTerms" "I" (.int (0 : Int32)) := D (Or.inr (hw _ (List.mem_of_getElem? (i := 12) rfl))) (ty := .int) (by decide)
          have K := K.ext Ex
          have Zs := Nat.le_trans Zs Ex.1
          refine own_dup X hx hby at_171 rfl 172 rfl ?_
          refine own_iload X hx hby p1 at_172 rfl 174 rfl ?_
          refine own_iload X hx hby p4 at_174 rfl 176 rfl ?_
          refine own_callC X hx hby hZ (st := [(.ref b168)]) [(.int p1), (.int p4)] rfl rfl hown (hw _ (List.mem_of_getElem? (i := 3) rfl)) (hw _ (List.mem_of_getElem? (i := 4) rfl)) (hw _ (List.mem_of_getElem? (i := 2) rfl)) (hw _ (List.mem_of_getElem? (i := 5) rfl)) (by decide) at_176 (rm1 l Z a0 hw b168 p1 p4 (0 : Int32) (0 : Int32) h168 n0 Zs E_b168 F_length_b168 F_distinctTerms_b168 g_b168) eT pd_3 rfl (by rw [hml]; rfl) (by decide) 1 rfl (by decide) (by decide) (by decide) 179 rfl ?_
          intro T176 L9 v9 X hQ
          obtain ⟨h176, eT⟩ : ∃ z, T176.heap = z := ⟨_, rfl⟩
          rw [eT] at hQ
          obtain ⟨rfl, N9, Kc, E_b168, F_length_b168, F_distinctTerms_b168⟩ := hQ
          have E_b82 := E_b82.keep Kc
          have F_length_b82 := F_length_b82.keep Kc (ninS ne_b82_b168 nin0)
          have F_distinctTerms_b82 := F_distinctTerms_b82.keep Kc (ninS ne_b82_b168 nin0)
          have K := K.trans Kc (allS (Or.inr sz_b168) all0)
          have Zs := Nat.le_trans Zs Kc.1
          have N := Fr.app N N9
          show Go p e below _ T176 (mkF m 179 #[.val (.int p1), .val (.int p2), .val (.int p3), .val (.int p4), .val (.int p5), .val (.int v5), .val (.int p1), .val (.int p4), .val (.ref b82), .val (.int v100), .val (.int v108), .unset, .unset] [(.ref b168)])
          refine own_astore X hx hby at_179 rfl (l' := #[.val (.int p1), .val (.int p2), .val (.int p3), .val (.int p4), .val (.int p5), .val (.int v5), .val (.int p1), .val (.int p4), .val (.ref b82), .val (.int v100), .val (.int v108), .val (.ref b168), .unset]) rfl 181 rfl ?_
          refine own_iload X hx hby p1 at_181 rfl 183 rfl ?_
          refine own_iloadN X hx hby p1 at_183 rfl 184 rfl ?_
          have J184 : ∀ (j184_0 : Int32), j184_0 = (if p1 = p1 then (if p4 = p2 then (1 : Int32) else (0 : Int32)) else (0 : Int32)) → Go p e below (FinQ s (Q0 Z p1 p2 p3 p4 p5 u_cache fc h0 n0) room_1.cells room_1.slots) T176 (mkF m 198 #[.val (.int p1), .val (.int p2), .val (.int p3), .val (.int p4), .val (.int p5), .val (.int v5), .val (.int p1), .val (.int p4), .val (.ref b82), .val (.int v100), .val (.int v108), .val (.ref b168), .unset] [(.int j184_0)]) := by
            intro j184_0 ej184_0
            refine own_istore X hx hby at_198 rfl (l' := #[.val (.int p1), .val (.int p2), .val (.int p3), .val (.int p4), .val (.int p5), .val (.int v5), .val (.int p1), .val (.int p4), .val (.ref b82), .val (.int v100), .val (.int v108), .val (.ref b168), .val (.int j184_0)]) rfl 200 rfl ?_
            refine own_iload X hx hby v100 at_200 rfl 202 rfl ?_
            have c202 : ¬ v100 = (0 : Int32) := by rw [← e100]; rw [own_self]; decide
            refine own_if_eq X hx hby at_202 233 205 (by decide) rfl (fun q => absurd q c202) (fun _ => ?_)
            refine own_aload X hx hby (.ref b82) at_205 rfl rfl 207 rfl ?_
            refine own_aload X hx hby (.ref b168) at_207 rfl rfl 209 rfl ?_
            refine own_callV X hx hby hZ (st := []) [(.ref b168)] rfl hown (hw _ (List.mem_of_getElem? (i := 13) rfl)) (hw _ (List.mem_of_getElem? (i := 14) rfl)) (hw _ (List.mem_of_getElem? (i := 16) rfl)) (hw _ (List.mem_of_getElem? (i := 15) rfl)) (hw _ (List.mem_of_getElem? (i := 2) rfl)) (hw _ (List.mem_of_getElem? (i := 17) rfl)) E_b82 (by decide) at_209 (rm3_d l Z a0 hw b82 b168 p1 p1 p4 p2 h176 n0 Zs E_b168 F_length_b168 F_length_b82 F_distinctTerms_b168 F_distinctTerms_b82) eT pd_4 rfl (by rw [hml]; rfl) (by decide) 0 rfl (by decide) (by decide) (by decide) 212 rfl ?_
            intro T209 L9 v9 X hQ
            obtain ⟨rfl, N9, eT⟩ := hQ
            have N := Fr.app N N9
            show Go p e below _ T209 (mkF m 212 #[.val (.int p1), .val (.int p2), .val (.int p3), .val (.int p4), .val (.int p5), .val (.int v5), .val (.int p1), .val (.int p4), .val (.ref b82), .val (.int v100), .val (.int v108), .val (.ref b168), .val (.int j184_0)] [(.int (f3_d p1 p1 p4 p2))])
            refine own_iload X hx hby j184_0 at_212 rfl 214 rfl ?_
            have c214 : (f3_d p1 p1 p4 p2) = j184_0 := own_eq1 _ _ _ _ _ ej184_0
            refine own_icmp_ne X hx hby at_214 233 217 (by decide) rfl (fun q => absurd c214 q) (fun _ => ?_)
            refine own_aload X hx hby (.ref b168) at_217 rfl rfl 219 rfl ?_
            refine own_aload X hx hby (.ref b82) at_219 rfl rfl 221 rfl ?_
            refine own_callV X hx hby hZ (st := []) [(.ref b82)] rfl hown (hw _ (List.mem_of_getElem? (i := 13) rfl)) (hw _ (List.mem_of_getElem? (i := 14) rfl)) (hw _ (List.mem_of_getElem? (i := 16) rfl)) (hw _ (List.mem_of_getElem? (i := 15) rfl)) (hw _ (List.mem_of_getElem? (i := 2) rfl)) (hw _ (List.mem_of_getElem? (i := 17) rfl)) E_b168 (by decide) at_221 (rm3_d l Z a0 hw b168 b82 p1 p1 p2 p4 h176 n0 Zs E_b82 F_length_b82 F_length_b168 F_distinctTerms_b82 F_distinctTerms_b168) eT pd_4 rfl (by rw [hml]; rfl) (by decide) 0 rfl (by decide) (by decide) (by decide) 224 rfl ?_
            intro T221 L9 v9 X hQ
            obtain ⟨rfl, N9, eT⟩ := hQ
            have N := Fr.app N N9
            show Go p e below _ T221 (mkF m 224 #[.val (.int p1), .val (.int p2), .val (.int p3), .val (.int p4), .val (.int p5), .val (.int v5), .val (.int p1), .val (.int p4), .val (.ref b82), .val (.int v100), .val (.int v108), .val (.ref b168), .val (.int j184_0)] [(.int (f3_d p1 p1 p2 p4))])
            refine own_iload X hx hby j184_0 at_224 rfl 226 rfl ?_
            have c226 : (f3_d p1 p1 p2 p4) = j184_0 := own_eq2 _ _ _ _ _ ej184_0
            refine own_icmp_ne X hx hby at_226 233 229 (by decide) rfl (fun q => absurd c226 q) (fun _ => ?_)
            refine own_iconst X hx hby (1 : Int32) at_229 rfl 230 rfl ?_
            refine own_goto X hx hby at_230 234 (by decide) ?_
            refine own_retN X hx hby hret hlk (t := .boolean) (z' := (1 : Int32)) (by simp) at_234 (by decide) (by decide) rfl ?_
            rw [eT]
            exact ⟨rfl, N⟩
          refine own_icmp_ne X hx hby at_184 197 187 (by decide) rfl (fun c184 => ?_) (fun c184 => ?_)
          · skip
            refine own_iconst X hx hby (0 : Int32) at_197 rfl 198 rfl ?_
            exact J184 _ (by rw [if_neg c184])
          · skip
            refine own_iload X hx hby p4 at_187 rfl 189 rfl ?_
            refine own_iloadN X hx hby p2 at_189 rfl 190 rfl ?_
            refine own_icmp_ne X hx hby at_190 197 193 (by decide) rfl (fun c190 => ?_) (fun c190 => ?_)
            · skip
              refine own_iconst X hx hby (0 : Int32) at_197 rfl 198 rfl ?_
              exact J184 _ (by rw [if_pos c184, if_neg c190])
            · skip
              refine own_iconst X hx hby (1 : Int32) at_193 rfl 194 rfl ?_
              refine own_goto X hx hby at_194 198 (by decide) ?_
              exact J184 _ (by rw [if_pos c184, if_pos c190])
        · skip
          refine own_iloadN X hx hby p1 at_141 rfl 142 rfl ?_
          refine own_callS X hx hby hZ (st := []) [(.int p1)] rfl hown (hw _ (List.mem_of_getElem? (i := 20) rfl)) (hw _ (List.mem_of_getElem? (i := 21) rfl)) (hw _ (List.mem_of_getElem? (i := 22) rfl)) (hw _ (List.mem_of_getElem? (i := 23) rfl)) (by decide) at_142 (rm4 l Z a0 hw p1 u_cache fc h88 n0 Zs (A_cache.ext (own_ext0 K)) (fun i hi => by obtain ⟨r, h1, h2⟩ := hfc i hi; exact ⟨r, h1, h2.ext (own_ext0 K)⟩) (S_high.ext (own_ext0 K)) (S_cache.ext (own_ext0 K))) eT pd_1 rfl (by rw [hml]; rfl) (by decide) 0 rfl (by decide) (by decide) (by decide) 145 rfl ?_
          intro T142 L9 v9 X hQ
          obtain ⟨h142, eT⟩ : ∃ z, T142.heap = z := ⟨_, rfl⟩
          rw [eT] at hQ
          have lt_b82 := E_b82.lt
          obtain ⟨b142rr, rfl, N9, Kc, E_b142rr⟩ := hQ
          have E_b82 := E_b82.keep Kc
          have F_length_b82 := F_length_b82.keep Kc nin0
          have F_distinctTerms_b82 := F_distinctTerms_b82.keep Kc nin0
          have K := K.trans Kc all0
          have Zs := Nat.le_trans Zs Kc.1
          have N := Fr.app N N9
          show Go p e below _ T142 (mkF m 145 #[.val (.int p1), .val (.int p2), .val (.int p3), .val (.int p4), .val (.int p5), .val (.int v5), .val (.int p1), .val (.int p4), .val (.ref b82), .val (.int v100), .val (.int v108), .unset, .unset] [(.ref b142rr)])
          refine own_astore X hx hby at_145 rfl (l' := #[.val (.int p1), .val (.int p2), .val (.int p3), .val (.int p4), .val (.int p5), .val (.int v5), .val (.int p1), .val (.int p4), .val (.ref b82), .val (.int v100), .val (.int v108), .val (.ref b142rr), .unset]) rfl 147 rfl ?_
          refine own_iload X hx hby v100 at_147 rfl 149 rfl ?_
          have c149 : ¬ v100 = (0 : Int32) := by rw [← e100]; rw [own_self]; decide
          refine own_if_eq X hx hby at_149 166 152 (by decide) rfl (fun q => absurd q c149) (fun _ => ?_)
          refine own_aload X hx hby (.ref b82) at_152 rfl rfl 154 rfl ?_
          refine own_aload X hx hby (.ref b142rr) at_154 rfl rfl 156 rfl ?_
          refine own_callV X hx hby hZ (st := []) [(.ref b142rr)] rfl hown (hw _ (List.mem_of_getElem? (i := 13) rfl)) (hw _ (List.mem_of_getElem? (i := 14) rfl)) (hw _ (List.mem_of_getElem? (i := 16) rfl)) (hw _ (List.mem_of_getElem? (i := 15) rfl)) (hw _ (List.mem_of_getElem? (i := 2) rfl)) (hw _ (List.mem_of_getElem? (i := 17) rfl)) E_b82 (by decide) at_156 (rm3_i l Z a0 hw b82 b142rr h142 n0 Zs E_b142rr) eT pd_4 rfl (by rw [hml]; rfl) (by decide) 0 rfl (by decide) (by decide) (by decide) 159 rfl ?_
          intro T156 L9 v9 X hQ
          obtain ⟨rfl, N9, eT⟩ := hQ
          have N := Fr.app N N9
          show Go p e below _ T156 (mkF m 159 #[.val (.int p1), .val (.int p2), .val (.int p3), .val (.int p4), .val (.int p5), .val (.int v5), .val (.int p1), .val (.int p4), .val (.ref b82), .val (.int v100), .val (.int v108), .val (.ref b142rr), .unset] [(.int (0 : Int32))])
          have c159 : (0 : Int32) = (0 : Int32) := rfl
          refine own_if_ne X hx hby at_159 166 162 (by decide) rfl (fun q => absurd c159 q) (fun _ => ?_)
          refine own_iconst X hx hby (1 : Int32) at_162 rfl 163 rfl ?_
          refine own_goto X hx hby at_163 167 (by decide) ?_
          refine own_retN X hx hby hret hlk (t := .boolean) (z' := (1 : Int32)) (by simp) at_167 (by decide) (by decide) rfl ?_
          rw [eT]
          exact ⟨rfl, N⟩
      · skip
        refine own_iload X hx hby v100 at_115 rfl 117 rfl ?_
        have c117 : ¬ v100 = (0 : Int32) := by rw [← e100]; rw [own_self]; decide
        refine own_if_eq X hx hby at_117 133 120 (by decide) rfl (fun q => absurd q c117) (fun _ => ?_)
        refine own_aload X hx hby (.ref b82) at_120 rfl rfl 122 rfl ?_
        refine own_aconstNull X hx hby at_122 123 rfl ?_
        refine own_callV X hx hby hZ (st := []) [.null] rfl hown (hw _ (List.mem_of_getElem? (i := 13) rfl)) (hw _ (List.mem_of_getElem? (i := 14) rfl)) (hw _ (List.mem_of_getElem? (i := 16) rfl)) (hw _ (List.mem_of_getElem? (i := 15) rfl)) (hw _ (List.mem_of_getElem? (i := 2) rfl)) (hw _ (List.mem_of_getElem? (i := 17) rfl)) E_b82 (by decide) at_123 (rm3_n l Z a0 hw b82 h88 n0 Zs ) eT pd_4 rfl (by rw [hml]; rfl) (by decide) 0 rfl (by decide) (by decide) (by decide) 126 rfl ?_
        intro T123 L9 v9 X hQ
        obtain ⟨rfl, N9, eT⟩ := hQ
        have N := Fr.app N N9
        show Go p e below _ T123 (mkF m 126 #[.val (.int p1), .val (.int p2), .val (.int p3), .val (.int p4), .val (.int p5), .val (.int v5), .val (.int p1), .val (.int p4), .val (.ref b82), .val (.int v100), .val (.int v108), .unset, .unset] [(.int (0 : Int32))])
        have c126 : (0 : Int32) = (0 : Int32) := rfl
        refine own_if_ne X hx hby at_126 133 129 (by decide) rfl (fun q => absurd c126 q) (fun _ => ?_)
        refine own_iconst X hx hby (1 : Int32) at_129 rfl 130 rfl ?_
        refine own_goto X hx hby at_130 134 (by decide) ?_
        refine own_retN X hx hby hret hlk (t := .boolean) (z' := (1 : Int32)) (by simp) at_134 (by decide) (by decide) rfl ?_
        rw [eT]
        exact ⟨rfl, N⟩
  · skip
    refine own_iloadN X hx hby p1 at_18 rfl 19 rfl ?_
    refine own_istore X hx hby at_19 rfl (l' := #[.val (.int p1), .val (.int p2), .val (.int p3), .val (.int p4), .val (.int p5), .val (.int v5), .val (.int p1), .val (.int p4), .unset, .unset, .unset, .unset, .unset]) rfl 21 rfl ?_
    refine own_iloadN X hx hby p2 at_21 rfl 22 rfl ?_
    refine own_istore X hx hby at_22 rfl (l' := #[.val (.int p1), .val (.int p2), .val (.int p3), .val (.int p4), .val (.int p5), .val (.int v5), .val (.int p1), .val (.int p2), .unset, .unset, .unset, .unset, .unset]) rfl 24 rfl ?_
    refine own_goto X hx hby at_24 82 (by decide) ?_
    refine own_new X hx hby hZ hown (hw _ (List.mem_of_getElem? (i := 0) rfl)) (hw _ (List.mem_of_getElem? (i := 1) rfl)) (hw _ (List.mem_of_getElem? (i := 2) rfl)) eT at_82 (by decide) (by decide) 85 rfl ?_
    intro T82 h82 b82 gb82 X eT Ex A D
    have g_b82 : n0 ≤ b82 := by rw [gb82]; exact Zs
    have sz_b82 : h0.size ≤ b82 := by rw [gb82]; exact K.1
    have E_b82 := A
    have F_length_b82 : Fld Z h82 b82 "com/example/rank_by_likelihood/rankbylikelihood/model/DocumentStatistics" "length" "I" (.int (0 : Int32)) := D (Or.inr (hw _ (List.mem_of_getElem? (i := 10) rfl))) (ty := .int) (by decide)
    have F_distinctTerms_b82 : Fld Z h82 b82 "com/example/rank_by_likelihood/rankbylikelihood/model/DocumentStatistics" "distinctTerms" "I" (.int (0 : Int32)) := D (Or.inr (hw _ (List.mem_of_getElem? (i := 12) rfl))) (ty := .int) (by decide)
    have K := K.ext Ex
    have Zs := Nat.le_trans Zs Ex.1
    refine own_dup X hx hby at_85 rfl 86 rfl ?_
    refine own_iloadN X hx hby p1 at_86 rfl 87 rfl ?_
    refine own_iloadN X hx hby p2 at_87 rfl 88 rfl ?_
    refine own_callC X hx hby hZ (st := [(.ref b82)]) [(.int p1), (.int p2)] rfl rfl hown (hw _ (List.mem_of_getElem? (i := 3) rfl)) (hw _ (List.mem_of_getElem? (i := 4) rfl)) (hw _ (List.mem_of_getElem? (i := 2) rfl)) (hw _ (List.mem_of_getElem? (i := 5) rfl)) (by decide) at_88 (rm1 l Z a0 hw b82 p1 p2 (0 : Int32) (0 : Int32) h82 n0 Zs E_b82 F_length_b82 F_distinctTerms_b82 g_b82) eT pd_3 rfl (by rw [hml]; rfl) (by decide) 1 rfl (by decide) (by decide) (by decide) 91 rfl ?_
    intro T88 L9 v9 X hQ
    obtain ⟨h88, eT⟩ : ∃ z, T88.heap = z := ⟨_, rfl⟩
    rw [eT] at hQ
    obtain ⟨rfl, N9, Kc, E_b82, F_length_b82, F_distinctTerms_b82⟩ := hQ
    have K := K.trans Kc (allS (Or.inr sz_b82) all0)
    have Zs := Nat.le_trans Zs Kc.1
    have N := Fr.app N N9
    show Go p e below _ T88 (mkF m 91 #[.val (.int p1), .val (.int p2), .val (.int p3), .val (.int p4), .val (.int p5), .val (.int v5), .val (.int p1), .val (.int p2), .unset, .unset, .unset, .unset, .unset] [(.ref b82)])
    refine own_astore X hx hby at_91 rfl (l' := #[.val (.int p1), .val (.int p2), .val (.int p3), .val (.int p4), .val (.int p5), .val (.int v5), .val (.int p1), .val (.int p2), .val (.ref b82), .unset, .unset, .unset, .unset]) rfl 93 rfl ?_
    refine own_aload X hx hby (.ref b82) at_93 rfl rfl 95 rfl ?_
    refine own_aload X hx hby (.ref b82) at_95 rfl rfl 97 rfl ?_
    refine own_callV X hx hby hZ (st := []) [(.ref b82)] rfl hown (hw _ (List.mem_of_getElem? (i := 13) rfl)) (hw _ (List.mem_of_getElem? (i := 14) rfl)) (hw _ (List.mem_of_getElem? (i := 16) rfl)) (hw _ (List.mem_of_getElem? (i := 15) rfl)) (hw _ (List.mem_of_getElem? (i := 2) rfl)) (hw _ (List.mem_of_getElem? (i := 17) rfl)) E_b82 (by decide) at_97 (rm3_d l Z a0 hw b82 b82 p1 p1 p2 p2 h88 n0 Zs E_b82 F_length_b82 F_length_b82 F_distinctTerms_b82 F_distinctTerms_b82) eT pd_4 rfl (by rw [hml]; rfl) (by decide) 0 rfl (by decide) (by decide) (by decide) 100 rfl ?_
    intro T97 L9 v9 X hQ
    obtain ⟨rfl, N9, eT⟩ := hQ
    have N := Fr.app N N9
    show Go p e below _ T97 (mkF m 100 #[.val (.int p1), .val (.int p2), .val (.int p3), .val (.int p4), .val (.int p5), .val (.int v5), .val (.int p1), .val (.int p2), .val (.ref b82), .unset, .unset, .unset, .unset] [(.int (f3_d p1 p1 p2 p2))])
    obtain ⟨v100, e100⟩ : ∃ z : Int32, (f3_d p1 p1 p2 p2) = z := ⟨_, rfl⟩
    refine own_istore X hx hby at_100 e100 (l' := #[.val (.int p1), .val (.int p2), .val (.int p3), .val (.int p4), .val (.int p5), .val (.int v5), .val (.int p1), .val (.int p2), .val (.ref b82), .val (.int v100), .unset, .unset, .unset]) rfl 102 rfl ?_
    refine own_iload X hx hby p5 at_102 rfl 104 rfl ?_
    refine own_iconst X hx hby (5 : Int32) at_104 rfl 105 rfl ?_
    refine own_ishr X hx hby at_105 106 rfl ?_
    refine own_iconst X hx hby (3 : Int32) at_106 rfl 107 rfl ?_
    refine own_iand X hx hby at_107 108 rfl ?_
    obtain ⟨v108, e108⟩ : ∃ z : Int32, ((p5 >>> ((5 : Int32) &&& 31)) &&& (3 : Int32)) = z := ⟨_, rfl⟩
    refine own_istore X hx hby at_108 e108 (l' := #[.val (.int p1), .val (.int p2), .val (.int p3), .val (.int p4), .val (.int p5), .val (.int v5), .val (.int p1), .val (.int p2), .val (.ref b82), .val (.int v100), .val (.int v108), .unset, .unset]) rfl 110 rfl ?_
    refine own_iload X hx hby v108 at_110 rfl 112 rfl ?_
    refine own_if_ne X hx hby at_112 135 115 (by decide) rfl (fun c112 => ?_) (fun c112 => ?_)
    · skip
      refine own_iload X hx hby v108 at_135 rfl 137 rfl ?_
      refine own_iconst X hx hby (1 : Int32) at_137 rfl 138 rfl ?_
      refine own_icmp_ne X hx hby at_138 168 141 (by decide) rfl (fun c138 => ?_) (fun c138 => ?_)
      · skip
        refine own_new X hx hby hZ hown (hw _ (List.mem_of_getElem? (i := 0) rfl)) (hw _ (List.mem_of_getElem? (i := 1) rfl)) (hw _ (List.mem_of_getElem? (i := 2) rfl)) eT at_168 (by decide) (by decide) 171 rfl ?_
        intro T168 h168 b168 gb168 X eT Ex A D
        have g_b168 : n0 ≤ b168 := by rw [gb168]; exact Zs
        have sz_b168 : h0.size ≤ b168 := by rw [gb168]; exact K.1
        have ne_b82_b168 : b82 ≠ b168 := Nat.ne_of_lt (by rw [gb168]; exact E_b82.lt)
        have E_b82 := E_b82.ext Ex
        have F_length_b82 := F_length_b82.ext Ex
        have F_distinctTerms_b82 := F_distinctTerms_b82.ext Ex
        have E_b168 := A
        have F_length_b168 : Fld Z h168 b168 "com/example/rank_by_likelihood/rankbylikelihood/model/DocumentStatistics" "length" "I" (.int (0 : Int32)) := D (Or.inr (hw _ (List.mem_of_getElem? (i := 10) rfl))) (ty := .int) (by decide)
        have F_distinctTerms_b168 : Fld Z h168 b168 "com/example/rank_by_likelihood/rankbylikelihood/model/DocumentStatistics" "distinctTerms" "I" (.int (0 : Int32)) := D (Or.inr (hw _ (List.mem_of_getElem? (i := 12) rfl))) (ty := .int) (by decide)
        have K := K.ext Ex
        have Zs := Nat.le_trans Zs Ex.1
        refine own_dup X hx hby at_171 rfl 172 rfl ?_
        refine own_iload X hx hby p1 at_172 rfl 174 rfl ?_
        refine own_iload X hx hby p2 at_174 rfl 176 rfl ?_
        refine own_callC X hx hby hZ (st := [(.ref b168)]) [(.int p1), (.int p2)] rfl rfl hown (hw _ (List.mem_of_getElem? (i := 3) rfl)) (hw _ (List.mem_of_getElem? (i := 4) rfl)) (hw _ (List.mem_of_getElem? (i := 2) rfl)) (hw _ (List.mem_of_getElem? (i := 5) rfl)) (by decide) at_176 (rm1 l Z a0 hw b168 p1 p2 (0 : Int32) (0 : Int32) h168 n0 Zs E_b168 F_length_b168 F_distinctTerms_b168 g_b168) eT pd_3 rfl (by rw [hml]; rfl) (by decide) 1 rfl (by decide) (by decide) (by decide) 179 rfl ?_
        intro T176 L9 v9 X hQ
        obtain ⟨h176, eT⟩ : ∃ z, T176.heap = z := ⟨_, rfl⟩
        rw [eT] at hQ
        obtain ⟨rfl, N9, Kc, E_b168, F_length_b168, F_distinctTerms_b168⟩ := hQ
        have E_b82 := E_b82.keep Kc
        have F_length_b82 := F_length_b82.keep Kc (ninS ne_b82_b168 nin0)
        have F_distinctTerms_b82 := F_distinctTerms_b82.keep Kc (ninS ne_b82_b168 nin0)
        have K := K.trans Kc (allS (Or.inr sz_b168) all0)
        have Zs := Nat.le_trans Zs Kc.1
        have N := Fr.app N N9
        show Go p e below _ T176 (mkF m 179 #[.val (.int p1), .val (.int p2), .val (.int p3), .val (.int p4), .val (.int p5), .val (.int v5), .val (.int p1), .val (.int p2), .val (.ref b82), .val (.int v100), .val (.int v108), .unset, .unset] [(.ref b168)])
        refine own_astore X hx hby at_179 rfl (l' := #[.val (.int p1), .val (.int p2), .val (.int p3), .val (.int p4), .val (.int p5), .val (.int v5), .val (.int p1), .val (.int p2), .val (.ref b82), .val (.int v100), .val (.int v108), .val (.ref b168), .unset]) rfl 181 rfl ?_
        refine own_iload X hx hby p1 at_181 rfl 183 rfl ?_
        refine own_iloadN X hx hby p1 at_183 rfl 184 rfl ?_
        have J184 : ∀ (j184_0 : Int32), j184_0 = (if p1 = p1 then (if p2 = p2 then (1 : Int32) else (0 : Int32)) else (0 : Int32)) → Go p e below (FinQ s (Q0 Z p1 p2 p3 p4 p5 u_cache fc h0 n0) room_1.cells room_1.slots) T176 (mkF m 198 #[.val (.int p1), .val (.int p2), .val (.int p3), .val (.int p4), .val (.int p5), .val (.int v5), .val (.int p1), .val (.int p2), .val (.ref b82), .val (.int v100), .val (.int v108), .val (.ref b168), .unset] [(.int j184_0)]) := by
          intro j184_0 ej184_0
          refine own_istore X hx hby at_198 rfl (l' := #[.val (.int p1), .val (.int p2), .val (.int p3), .val (.int p4), .val (.int p5), .val (.int v5), .val (.int p1), .val (.int p2), .val (.ref b82), .val (.int v100), .val (.int v108), .val (.ref b168), .val (.int j184_0)]) rfl 200 rfl ?_
          refine own_iload X hx hby v100 at_200 rfl 202 rfl ?_
          have c202 : ¬ v100 = (0 : Int32) := by rw [← e100]; rw [own_self]; decide
          refine own_if_eq X hx hby at_202 233 205 (by decide) rfl (fun q => absurd q c202) (fun _ => ?_)
          refine own_aload X hx hby (.ref b82) at_205 rfl rfl 207 rfl ?_
          refine own_aload X hx hby (.ref b168) at_207 rfl rfl 209 rfl ?_
          refine own_callV X hx hby hZ (st := []) [(.ref b168)] rfl hown (hw _ (List.mem_of_getElem? (i := 13) rfl)) (hw _ (List.mem_of_getElem? (i := 14) rfl)) (hw _ (List.mem_of_getElem? (i := 16) rfl)) (hw _ (List.mem_of_getElem? (i := 15) rfl)) (hw _ (List.mem_of_getElem? (i := 2) rfl)) (hw _ (List.mem_of_getElem? (i := 17) rfl)) E_b82 (by decide) at_209 (rm3_d l Z a0 hw b82 b168 p1 p1 p2 p2 h176 n0 Zs E_b168 F_length_b168 F_length_b82 F_distinctTerms_b168 F_distinctTerms_b82) eT pd_4 rfl (by rw [hml]; rfl) (by decide) 0 rfl (by decide) (by decide) (by decide) 212 rfl ?_
          intro T209 L9 v9 X hQ
          obtain ⟨rfl, N9, eT⟩ := hQ
          have N := Fr.app N N9
          show Go p e below _ T209 (mkF m 212 #[.val (.int p1), .val (.int p2), .val (.int p3), .val (.int p4), .val (.int p5), .val (.int v5), .val (.int p1), .val (.int p2), .val (.ref b82), .val (.int v100), .val (.int v108), .val (.ref b168), .val (.int j184_0)] [(.int (f3_d p1 p1 p2 p2))])
          refine own_iload X hx hby j184_0 at_212 rfl 214 rfl ?_
          have c214 : (f3_d p1 p1 p2 p2) = j184_0 := own_eq1 _ _ _ _ _ ej184_0
          refine own_icmp_ne X hx hby at_214 233 217 (by decide) rfl (fun q => absurd c214 q) (fun _ => ?_)
          refine own_aload X hx hby (.ref b168) at_217 rfl rfl 219 rfl ?_
          refine own_aload X hx hby (.ref b82) at_219 rfl rfl 221 rfl ?_
          refine own_callV X hx hby hZ (st := []) [(.ref b82)] rfl hown (hw _ (List.mem_of_getElem? (i := 13) rfl)) (hw _ (List.mem_of_getElem? (i := 14) rfl)) (hw _ (List.mem_of_getElem? (i := 16) rfl)) (hw _ (List.mem_of_getElem? (i := 15) rfl)) (hw _ (List.mem_of_getElem? (i := 2) rfl)) (hw _ (List.mem_of_getElem? (i := 17) rfl)) E_b168 (by decide) at_221 (rm3_d l Z a0 hw b168 b82 p1 p1 p2 p2 h176 n0 Zs E_b82 F_length_b82 F_length_b168 F_distinctTerms_b82 F_distinctTerms_b168) eT pd_4 rfl (by rw [hml]; rfl) (by decide) 0 rfl (by decide) (by decide) (by decide) 224 rfl ?_
          intro T221 L9 v9 X hQ
          obtain ⟨rfl, N9, eT⟩ := hQ
          have N := Fr.app N N9
          show Go p e below _ T221 (mkF m 224 #[.val (.int p1), .val (.int p2), .val (.int p3), .val (.int p4), .val (.int p5), .val (.int v5), .val (.int p1), .val (.int p2), .val (.ref b82), .val (.int v100), .val (.int v108), .val (.ref b168), .val (.int j184_0)] [(.int (f3_d p1 p1 p2 p2))])
          refine own_iload X hx hby j184_0 at_224 rfl 226 rfl ?_
          have c226 : (f3_d p1 p1 p2 p2) = j184_0 := own_eq2 _ _ _ _ _ ej184_0
          refine own_icmp_ne X hx hby at_226 233 229 (by decide) rfl (fun q => absurd c226 q) (fun _ => ?_)
          refine own_iconst X hx hby (1 : Int32) at_229 rfl 230 rfl ?_
          refine own_goto X hx hby at_230 234 (by decide) ?_
          refine own_retN X hx hby hret hlk (t := .boolean) (z' := (1 : Int32)) (by simp) at_234 (by decide) (by decide) rfl ?_
          rw [eT]
          exact ⟨rfl, N⟩
        refine own_icmp_ne X hx hby at_184 197 187 (by decide) rfl (fun c184 => ?_) (fun c184 => ?_)
        · skip
          refine own_iconst X hx hby (0 : Int32) at_197 rfl 198 rfl ?_
          exact J184 _ (by rw [if_neg c184])
        · skip
          refine own_iload X hx hby p2 at_187 rfl 189 rfl ?_
          refine own_iloadN X hx hby p2 at_189 rfl 190 rfl ?_
          refine own_icmp_ne X hx hby at_190 197 193 (by decide) rfl (fun c190 => ?_) (fun c190 => ?_)
          · skip
            refine own_iconst X hx hby (0 : Int32) at_197 rfl 198 rfl ?_
            exact J184 _ (by rw [if_pos c184, if_neg c190])
          · skip
            refine own_iconst X hx hby (1 : Int32) at_193 rfl 194 rfl ?_
            refine own_goto X hx hby at_194 198 (by decide) ?_
            exact J184 _ (by rw [if_pos c184, if_pos c190])
      · skip
        refine own_iloadN X hx hby p1 at_141 rfl 142 rfl ?_
        refine own_callS X hx hby hZ (st := []) [(.int p1)] rfl hown (hw _ (List.mem_of_getElem? (i := 20) rfl)) (hw _ (List.mem_of_getElem? (i := 21) rfl)) (hw _ (List.mem_of_getElem? (i := 22) rfl)) (hw _ (List.mem_of_getElem? (i := 23) rfl)) (by decide) at_142 (rm4 l Z a0 hw p1 u_cache fc h88 n0 Zs (A_cache.ext (own_ext0 K)) (fun i hi => by obtain ⟨r, h1, h2⟩ := hfc i hi; exact ⟨r, h1, h2.ext (own_ext0 K)⟩) (S_high.ext (own_ext0 K)) (S_cache.ext (own_ext0 K))) eT pd_1 rfl (by rw [hml]; rfl) (by decide) 0 rfl (by decide) (by decide) (by decide) 145 rfl ?_
        intro T142 L9 v9 X hQ
        obtain ⟨h142, eT⟩ : ∃ z, T142.heap = z := ⟨_, rfl⟩
        rw [eT] at hQ
        have lt_b82 := E_b82.lt
        obtain ⟨b142rr, rfl, N9, Kc, E_b142rr⟩ := hQ
        have E_b82 := E_b82.keep Kc
        have F_length_b82 := F_length_b82.keep Kc nin0
        have F_distinctTerms_b82 := F_distinctTerms_b82.keep Kc nin0
        have K := K.trans Kc all0
        have Zs := Nat.le_trans Zs Kc.1
        have N := Fr.app N N9
        show Go p e below _ T142 (mkF m 145 #[.val (.int p1), .val (.int p2), .val (.int p3), .val (.int p4), .val (.int p5), .val (.int v5), .val (.int p1), .val (.int p2), .val (.ref b82), .val (.int v100), .val (.int v108), .unset, .unset] [(.ref b142rr)])
        refine own_astore X hx hby at_145 rfl (l' := #[.val (.int p1), .val (.int p2), .val (.int p3), .val (.int p4), .val (.int p5), .val (.int v5), .val (.int p1), .val (.int p2), .val (.ref b82), .val (.int v100), .val (.int v108), .val (.ref b142rr), .unset]) rfl 147 rfl ?_
        refine own_iload X hx hby v100 at_147 rfl 149 rfl ?_
        have c149 : ¬ v100 = (0 : Int32) := by rw [← e100]; rw [own_self]; decide
        refine own_if_eq X hx hby at_149 166 152 (by decide) rfl (fun q => absurd q c149) (fun _ => ?_)
        refine own_aload X hx hby (.ref b82) at_152 rfl rfl 154 rfl ?_
        refine own_aload X hx hby (.ref b142rr) at_154 rfl rfl 156 rfl ?_
        refine own_callV X hx hby hZ (st := []) [(.ref b142rr)] rfl hown (hw _ (List.mem_of_getElem? (i := 13) rfl)) (hw _ (List.mem_of_getElem? (i := 14) rfl)) (hw _ (List.mem_of_getElem? (i := 16) rfl)) (hw _ (List.mem_of_getElem? (i := 15) rfl)) (hw _ (List.mem_of_getElem? (i := 2) rfl)) (hw _ (List.mem_of_getElem? (i := 17) rfl)) E_b82 (by decide) at_156 (rm3_i l Z a0 hw b82 b142rr h142 n0 Zs E_b142rr) eT pd_4 rfl (by rw [hml]; rfl) (by decide) 0 rfl (by decide) (by decide) (by decide) 159 rfl ?_
        intro T156 L9 v9 X hQ
        obtain ⟨rfl, N9, eT⟩ := hQ
        have N := Fr.app N N9
        show Go p e below _ T156 (mkF m 159 #[.val (.int p1), .val (.int p2), .val (.int p3), .val (.int p4), .val (.int p5), .val (.int v5), .val (.int p1), .val (.int p2), .val (.ref b82), .val (.int v100), .val (.int v108), .val (.ref b142rr), .unset] [(.int (0 : Int32))])
        have c159 : (0 : Int32) = (0 : Int32) := rfl
        refine own_if_ne X hx hby at_159 166 162 (by decide) rfl (fun q => absurd c159 q) (fun _ => ?_)
        refine own_iconst X hx hby (1 : Int32) at_162 rfl 163 rfl ?_
        refine own_goto X hx hby at_163 167 (by decide) ?_
        refine own_retN X hx hby hret hlk (t := .boolean) (z' := (1 : Int32)) (by simp) at_167 (by decide) (by decide) rfl ?_
        rw [eT]
        exact ⟨rfl, N⟩
    · skip
      refine own_iload X hx hby v100 at_115 rfl 117 rfl ?_
      have c117 : ¬ v100 = (0 : Int32) := by rw [← e100]; rw [own_self]; decide
      refine own_if_eq X hx hby at_117 133 120 (by decide) rfl (fun q => absurd q c117) (fun _ => ?_)
      refine own_aload X hx hby (.ref b82) at_120 rfl rfl 122 rfl ?_
      refine own_aconstNull X hx hby at_122 123 rfl ?_
      refine own_callV X hx hby hZ (st := []) [.null] rfl hown (hw _ (List.mem_of_getElem? (i := 13) rfl)) (hw _ (List.mem_of_getElem? (i := 14) rfl)) (hw _ (List.mem_of_getElem? (i := 16) rfl)) (hw _ (List.mem_of_getElem? (i := 15) rfl)) (hw _ (List.mem_of_getElem? (i := 2) rfl)) (hw _ (List.mem_of_getElem? (i := 17) rfl)) E_b82 (by decide) at_123 (rm3_n l Z a0 hw b82 h88 n0 Zs ) eT pd_4 rfl (by rw [hml]; rfl) (by decide) 0 rfl (by decide) (by decide) (by decide) 126 rfl ?_
      intro T123 L9 v9 X hQ
      obtain ⟨rfl, N9, eT⟩ := hQ
      have N := Fr.app N N9
      show Go p e below _ T123 (mkF m 126 #[.val (.int p1), .val (.int p2), .val (.int p3), .val (.int p4), .val (.int p5), .val (.int v5), .val (.int p1), .val (.int p2), .val (.ref b82), .val (.int v100), .val (.int v108), .unset, .unset] [(.int (0 : Int32))])
      have c126 : (0 : Int32) = (0 : Int32) := rfl
      refine own_if_ne X hx hby at_126 133 129 (by decide) rfl (fun q => absurd c126 q) (fun _ => ?_)
      refine own_iconst X hx hby (1 : Int32) at_129 rfl 130 rfl ?_
      refine own_goto X hx hby at_130 134 (by decide) ?_
      refine own_retN X hx hby hret hlk (t := .boolean) (z' := (1 : Int32)) (by simp) at_134 (by decide) (by decide) rfl ?_
      rw [eT]
      exact ⟨rfl, N⟩
theorem own_cache {s : State} {args : Array Value} {t : Term} {u : Addr} {cl : Cell} (hfit : Fit s) (ev : ∀ idx, t.eval args s none idx s = some (.ref u)) (A : Arr s s.heap u cl (.object "java/lang/Integer")) (hl : (Jvm.Cond.eq (.length t) (.int 256)).before args s = true)
    {CC : Jvm.Cond} (ha : (Jvm.Cond.all t (.and (.exactly (.elem t (.index 0)) "java/lang/Integer") CC)).before args s = true) :
    ∃ fc : Nat → Value, Afn s s.heap u (.object "java/lang/Integer") 256 fc ∧ ∀ i, i < 256 → ∃ r : Addr, fc i = .ref r ∧ Exa s s.heap r "java/lang/Integer" := by
  obtain ⟨hb, hz⟩ := Jvm.Free.IntBox.length_fwd hl (ev []) A.1 A.2.1 A.2.2
  have hsz : cl.slots.size = 256 := by
    have q := len_toInt hb
    rw [hz] at q
    simp only [Int32.reduceToInt] at q
    omega
  have hat := A.fin (Vm.Alike.refl _)
  have hall := Cond.all_elim (ev []) hat (Cond.before_iff.mp ha)
  have key : ∀ i, i < 256 → ∃ r : Addr, cl.slots[i]? = some (.ref r) ∧ Exa s s.heap r "java/lang/Integer" := by
    intro i hi
    have h1 := (and_e (hall i (by rw [hsz]; exact hi))).1
    obtain ⟨r, hr⟩ := exa_v h1
    have hE : Exa s s.heap r "java/lang/Integer" := exa_at hr h1
    obtain ⟨hnn, hback⟩ := Jvm.Free.IntBox.place_nonneg i hi
    have e0 : (Term.elem t (.index 0)).eval args s none [i] s = cl.slots[i]? := by simp [Term.eval, ev, hnn, hat, hback]
    exact ⟨r, e0 ▸ hr, hE⟩
  refine ⟨fun i => cl.slots[i]?.getD .null, ⟨cl, A, hsz, fun i hi => ?_⟩, fun i hi => ?_⟩
  · obtain ⟨r, h1, -⟩ := key i hi
    refine ⟨?_, ?_⟩
    · show cl.slots[i]? = some (cl.slots[i]?.getD .null)
      rw [h1]; rfl
    · show fits _ (cl.slots[i]?.getD .null) = true
      rw [h1]; rfl
  · obtain ⟨r, h1, h2⟩ := key i hi
    exact ⟨r, by show cl.slots[i]?.getD .null = _; rw [h1]; rfl, h2⟩
set_option maxRecDepth 65536 in
set_option maxHeartbeats 40000000 in
theorem comes_1 {Post : Tables → Env → Array Value → State → Outcome → State → Prop} (hpost : ∀ tb e args s v u, (limb_1_1.after args s (.returned v) u = true ∧ limb_1_2.after args s (.returned v) u = true ∧ True) → FrameEnd s (.returned v) u (Jvm.fieldLocs frame_1_writes args s ++ Jvm.arrayLocs frame_1_arrays args s ++ Jvm.staticLocs frame_1_statics s) 16 128 → Post tb e args s (.returned v) u) :
    ArmFor flags0 classFile x code maxLocals ret World_1 tables_1 room_1 Calls_1 rest_1 Pre_1 Post := by
  intro l hfl _ _ p e ha hc hk s m args below hf hA hF happ hP
  obtain ⟨hcalls, hrest, hpre⟩ := hP
  obtain ⟨-, -, -, hnamed, -, -, -, hat⟩ := (Spec.applies_iff hf).mp happ
  obtain ⟨hg, hn⟩ := and_e (Cond.before_iff.mp (show (Jvm.Cond.and given_1 narrow_1).before args s = true from hpre))
  obtain ⟨gg1, gg2⟩ := and_e hg
  obtain ⟨gg3, gg4⟩ := and_e gg2
  obtain ⟨gg5, gg6⟩ := and_e gg4
  obtain ⟨gg7, gg8⟩ := and_e gg6
  obtain ⟨gg9, gg10⟩ := and_e gg8
  obtain ⟨w0, w1, w2, w3, w4, rfl⟩ : ∃ w0 w1 w2 w3 w4 : Value, args = #[w0, w1, w2, w3, w4] := by
    have hs : args.size = 5 := by simpa [Cond.value, given_1] using gg1
    obtain ⟨L⟩ := args
    match L, hs with
    | [w0, w1, w2, w3, w4], _ => exact ⟨w0, w1, w2, w3, w4, rfl⟩
  have hw := fun d (hd : d ∈ tables_1) => atoms_spec (ws := Jvm.Cond.code x code maxLocals ret :: tables_1) hat d (List.mem_cons_of_mem _ hd)
  have hfit : Fit s := fun {y c} hc i hi => by
    obtain ⟨ha, rfl⟩ := Array.getElem?_eq_some_iff.mp hc
    have q := List.all_eq_true.mp ((Array.all_eq_true_iff_forall_mem.mp hF) _ (Array.getElem_mem ha)) i (List.mem_range.mpr hi)
    simpa [Array.getElem?_eq_getElem hi] using q
  obtain ⟨hsets, hown0⟩ := atoms_of _ (rest_1_c_eq ▸ (show rest_1_c.before _ s = true from hrest))
  have hr0 := Cond.before_iff.mp hown0
  obtain ⟨i0, ei0⟩ := is_v gg3
  obtain rfl : w0 = (.int i0) := Option.some.inj ei0
  obtain ⟨i1, ei1⟩ := is_v gg5
  obtain rfl : w1 = (.int i1) := Option.some.inj ei1
  obtain ⟨i2, ei2⟩ := is_v gg7
  obtain rfl : w2 = (.int i2) := Option.some.inj ei2
  obtain ⟨i3, ei3⟩ := is_v gg9
  obtain rfl : w3 = (.int i3) := Option.some.inj ei3
  obtain ⟨i4, ei4⟩ := is_v gg10
  obtain rfl : w4 = (.int i4) := Option.some.inj ei4
  have evH : (Jvm.Term.static "java/lang/Integer$IntegerCache" "high" "I").eval _ s none [] s = some (.int 127) := Cond.eq_int (show (Jvm.Cond.eq (Jvm.Term.static "java/lang/Integer$IntegerCache" "high" "I") (.int 127)).holds _ s none s [] = true from (hsets _ (List.mem_of_getElem? (i := 3) rfl))) rfl
  have S_high := Sta.start evH (Or.inl (hsets _ (List.mem_of_getElem? (i := 1) rfl)))
  obtain ⟨u_cache, evC⟩ := arr_v (Cond.before_iff.mp (hsets _ (List.mem_of_getElem? (i := 4) rfl)))
  have S_cache := Sta.start evC (Or.inr ⟨(hw _ (List.mem_of_getElem? (i := 25) rfl)), (hsets _ (List.mem_of_getElem? (i := 2) rfl))⟩)
  obtain ⟨clC, ArC⟩ := Arr.start evC (Cond.before_iff.mp (hsets _ (List.mem_of_getElem? (i := 4) rfl)))
  obtain ⟨fc, A_cache, hfc⟩ := own_cache hfit (fun _ => evC) ArC (hsets _ (List.mem_of_getElem? (i := 6) rfl)) (hsets _ (List.mem_of_getElem? (i := 7) rfl))
  obtain ⟨n, o, h1, h2, h3, _, L, rfl, ⟨rfl, N⟩, hq⟩ := rm0 l s _ hw i0 i1 i2 i3 i4 u_cache fc s.heap s.heap.size (Nat.le_refl _) A_cache hfc S_high S_cache tables_1 p e ha hc hk s m _ below hf ((Spec.applies_iff_loose hf).mp happ).1 ⟨rfl, State.Warmed39.refl s, rfl⟩ trivial
  refine ⟨n, _, h1, h2, h3, hpost _ _ _ _ _ _ ⟨Cond.after_iff.mpr rfl, Cond.after_iff.mpr (eq_i res_at (Term.int_eval (1)) rfl), trivial⟩ ⟨hq.1, hq.2.1, (hq.2.2.sift fun y hy => Or.inr (N y hy)).mono (by decide) (by decide)⟩⟩
theorem main_1_1 : Claimed_1_1 := comes_1 fun _ _ _ _ _ _ h hF => ⟨h.1, hF⟩
theorem main_1_2 : Claimed_1_2 := comes_1 fun _ _ _ _ _ _ h hF => ⟨h.2.1, hF⟩
end Jvm.Pilot.@@N@@
namespace Jvm.Pilot.@@N@@
open Jvm Jvm.ClassFile Sem Op Lib Jvm.Free Jvm.Stand Jvm.Pilot.@@N@@.Jvm.D
/-! MADE BY PROGRAM (witnessworld.py) out of the Statement's table words and the real class files: 16 classes; the members and pool entries that the words name. The judged class is class 1, her method 1. -/
namespace start1
open Jvm.ClassFile
def u (s : String) : CpInfo := .utf8 (stringToUtf16 s)
/-- a pool by its gaps: so many unusable entries, then the entry; so many at the end -/
def gap : Nat → List CpInfo → List CpInfo
  | 0, r => r
  | n + 1, r => .unusable :: gap n r
def poolList (es : List (Nat × CpInfo)) (last : Nat) : List CpInfo := es.foldr (fun e r => gap e.1 (e.2 :: r)) (gap last [])
def pool (es : List (Nat × CpInfo)) (last : Nat) : Array CpInfo := ⟨poolList es last⟩
def fileOf (pool : Array CpInfo) (this : Nat) (attrs : Array Attribute := #[]) (ms : Array MethodInfo := #[]) (fl : Nat := 33) (sup : Nat := 0) (ifs : Array Nat := #[]) (fds : Array FieldInfo := #[]) : ClassFile where
  minorVersion := 0
  majorVersion := 65
  constantPool := pool
  accessFlags := fl
  thisClass := this
  superClass := sup
  interfaces := ifs
  fields := fds
  methods := ms
  attributes := attrs
def plain (name : String) (sup : Option ClassId) : Class where
  name := name
  kind := .ordinary
  loader := none
  accessFlags := 33
  super := sup
  interfaces := #[]
  cf := none
  fields := #[]
  methods := #[]
  instanceTypes := #[]
  staticTypes := #[]
  resolved := #[]
  callSites := []
  init := .initialized
  statics := none
  mirror := none

def pool0 : Array CpInfo := pool [(5, u "<init>"), (0, u "()V"), (1, .class_ 10), (1, u "java/lang/Object")] 113

def k0c0 : Code := { maxStack := 0, maxLocals := 1, code := object_method_1_code, exceptionTable := #[], attributes := #[] }
def k0m0 : Method := { name := "<init>", desc := "()V", sig := { parameters := [], returnType := none }, accessFlags := 1, code := some k0c0 }
/-- java/lang/Object -/
def k0 : Class := { plain "java/lang/Object" none with
  accessFlags := 33
  interfaces := #[]
  cf := some (fileOf pool0 8 #[] #[{ accessFlags := 1, nameIndex := 5, descriptorIndex := 6, attributes := #[] }] 33 0 #[] #[])
  fields := #[]
  methods := #[k0m0]
  instanceTypes := #[]
  staticTypes := #[]
  resolved := Array.replicate 124 none
  statics := none }

def pool1 : Array CpInfo := pool [(2, .class_ 4), (1, u "java/lang/Object"), (0, u "<init>"), (0, u "()V"), (0, .class_ 8), (0, u "com/example/rank_by_likelihood/rankbylikelihood/model/DocumentStatistics"), (0, .methodref 7 10), (0, .nameAndType 5 11), (0, u "(II)V"), (0, .methodref 7 13), (0, .nameAndType 14 15), (0, u "equals"), (0, u "(Ljava/lang/Object;)Z"), (0, .methodref 17 18), (0, .class_ 19), (0, .nameAndType 20 21), (0, u "java/lang/Integer"), (0, u "valueOf"), (0, u "(I)Ljava/lang/Integer;"), (0, .class_ 23), (0, u "com/example/rank_by_likelihood/rankbylikelihood/model/DocumentStatisticsEqualsPinLaw"), (2, u "law"), (0, u "(IIIII)Z")] 3

def k1m0 : Method := { name := "<init>", desc := "()V", sig := { parameters := [], returnType := none }, accessFlags := 1, code := none }
def k1c1 : Code := { maxStack := 4, maxLocals := 13, code := code, exceptionTable := #[], attributes := #[] }
def k1m1 : Method := { name := "law", desc := "(IIIII)Z", sig := { parameters := [.int, .int, .int, .int, .int], returnType := some .boolean }, accessFlags := 9, code := some k1c1 }
/-- com/example/rank_by_likelihood/rankbylikelihood/model/DocumentStatisticsEqualsPinLaw -/
def k1 : Class := { plain "com/example/rank_by_likelihood/rankbylikelihood/model/DocumentStatisticsEqualsPinLaw" (some 0) with
  accessFlags := 49
  interfaces := #[]
  cf := some (fileOf pool1 22 #[] #[{ accessFlags := 1, nameIndex := 5, descriptorIndex := 6, attributes := #[] }, { accessFlags := 9, nameIndex := 26, descriptorIndex := 27, attributes := #[] }] 49 2 #[] #[])
  fields := #[]
  methods := #[k1m0, k1m1]
  instanceTypes := #[]
  staticTypes := #[]
  resolved := Array.replicate 31 none
  statics := none }

def pool2 : Array CpInfo := pool [(1, .methodref 2 3), (0, .class_ 4), (0, .nameAndType 5 6), (0, u "java/lang/Object"), (0, u "<init>"), (0, u "()V"), (0, .fieldref 8 9), (0, .class_ 10), (0, .nameAndType 11 12), (0, u "com/example/rank_by_likelihood/rankbylikelihood/model/DocumentStatistics"), (0, u "length"), (0, u "I"), (0, .fieldref 8 14), (0, .nameAndType 15 12), (0, u "distinctTerms"), (0, u "(II)V"), (3, u "equals"), (0, u "(Ljava/lang/Object;)Z")] 4

def k2c0 : Code := { maxStack := 2, maxLocals := 3, code := prog_59_method_1_code, exceptionTable := #[], attributes := #[] }
def k2m0 : Method := { name := "<init>", desc := "(II)V", sig := { parameters := [.int, .int], returnType := none }, accessFlags := 1, code := some k2c0 }
def k2c1 : Code := { maxStack := 2, maxLocals := 2, code := prog_59_method_4_code, exceptionTable := #[], attributes := #[] }
def k2m1 : Method := { name := "equals", desc := "(Ljava/lang/Object;)Z", sig := { parameters := [(.object "java/lang/Object")], returnType := some .boolean }, accessFlags := 1, code := some k2c1 }
/-- com/example/rank_by_likelihood/rankbylikelihood/model/DocumentStatistics -/
def k2 : Class := { plain "com/example/rank_by_likelihood/rankbylikelihood/model/DocumentStatistics" (some 0) with
  accessFlags := 49
  interfaces := #[]
  cf := some (fileOf pool2 8 #[] #[{ accessFlags := 1, nameIndex := 5, descriptorIndex := 16, attributes := #[] }, { accessFlags := 1, nameIndex := 20, descriptorIndex := 21, attributes := #[] }] 49 2 #[] #[{ accessFlags := 18, nameIndex := 11, descriptorIndex := 12, attributes := #[] }, { accessFlags := 18, nameIndex := 15, descriptorIndex := 12, attributes := #[] }])
  fields := #[{ name := "length", type := .int, accessFlags := 18, slot := 0, constantValue := 0 }, { name := "distinctTerms", type := .int, accessFlags := 18, slot := 1, constantValue := 0 }]
  methods := #[k2m0, k2m1]
  instanceTypes := #[.int, .int]
  staticTypes := #[]
  resolved := Array.replicate 26 none
  statics := none }

def pool3 : Array CpInfo := pool [(1, .class_ 2), (0, u "java/io/Serializable"), (0, .class_ 4), (0, u "java/lang/Object")] 2

/-- java/io/Serializable -/
def k3 : Class := { plain "java/io/Serializable" (some 0) with
  accessFlags := 1537
  interfaces := #[]
  cf := some (fileOf pool3 1 #[] #[] 1537 3 #[] #[])
  fields := #[]
  methods := #[]
  instanceTypes := #[]
  staticTypes := #[]
  resolved := Array.replicate 7 none
  statics := none }

def pool4 : Array CpInfo := pool [(1, .methodref 2 3), (0, .class_ 4), (0, .nameAndType 5 6), (0, u "java/lang/Object"), (0, u "<init>"), (0, u "()V"), (1, .class_ 10), (1, u "java/lang/Number"), (2, .class_ 14), (0, u "java/io/Serializable"), (0, u "serialVersionUID"), (0, u "J")] 20

def k4c0 : Code := { maxStack := 1, maxLocals := 1, code := jdk_18_method_1_code, exceptionTable := #[], attributes := #[] }
def k4m0 : Method := { name := "<init>", desc := "()V", sig := { parameters := [], returnType := none }, accessFlags := 1, code := some k4c0 }
/-- java/lang/Number -/
def k4 : Class := { plain "java/lang/Number" (some 0) with
  accessFlags := 1057
  interfaces := #[3]
  cf := some (fileOf pool4 8 #[] #[{ accessFlags := 1, nameIndex := 5, descriptorIndex := 6, attributes := #[] }] 1057 2 #[13] #[{ accessFlags := 26, nameIndex := 15, descriptorIndex := 16, attributes := #[] }])
  fields := #[{ name := "serialVersionUID", type := .long, accessFlags := 26, slot := 0, constantValue := 0 }]
  methods := #[k4m0]
  instanceTypes := #[]
  staticTypes := #[.long]
  resolved := Array.replicate 37 none
  statics := none }

def pool5 : Array CpInfo := pool [(1, .class_ 2), (0, u "java/lang/Comparable"), (0, .class_ 4), (0, u "java/lang/Object")] 7

/-- java/lang/Comparable -/
def k5 : Class := { plain "java/lang/Comparable" (some 0) with
  accessFlags := 1537
  interfaces := #[]
  cf := some (fileOf pool5 1 #[] #[] 1537 3 #[] #[])
  fields := #[]
  methods := #[]
  instanceTypes := #[]
  staticTypes := #[]
  resolved := Array.replicate 12 none
  statics := none }

def pool6 : Array CpInfo := pool [(1, .class_ 2), (0, u "java/lang/constant/Constable"), (0, .class_ 4), (0, u "java/lang/Object")] 6

/-- java/lang/constant/Constable -/
def k6 : Class := { plain "java/lang/constant/Constable" (some 0) with
  accessFlags := 1537
  interfaces := #[]
  cf := some (fileOf pool6 1 #[] #[] 1537 3 #[] #[])
  fields := #[]
  methods := #[]
  instanceTypes := #[]
  staticTypes := #[]
  resolved := Array.replicate 11 none
  statics := none }

def pool7 : Array CpInfo := pool [(1, .class_ 2), (0, u "java/lang/constant/ConstantDesc"), (0, .class_ 4), (0, u "java/lang/Object")] 32

/-- java/lang/constant/ConstantDesc -/
def k7 : Class := { plain "java/lang/constant/ConstantDesc" (some 0) with
  accessFlags := 1537
  interfaces := #[]
  cf := some (fileOf pool7 1 #[] #[] 1537 3 #[] #[])
  fields := #[]
  methods := #[]
  instanceTypes := #[]
  staticTypes := #[]
  resolved := Array.replicate 37 none
  statics := none }

def pool8 : Array CpInfo := pool [(1, .class_ 2), (0, u "java/lang/Integer"), (16, u "digits"), (0, u "[C"), (46, u "<init>"), (17, u "DigitOnes"), (0, u "[B"), (2, u "DigitTens"), (10, .nameAndType 67 101), (0, u "()V"), (85, u "valueOf"), (0, u "(I)Ljava/lang/Integer;"), (0, .class_ 190), (0, u "java/lang/Integer$IntegerCache"), (0, .fieldref 189 192), (0, .nameAndType 193 194), (0, u "high"), (0, u "I"), (0, .fieldref 189 196), (0, .nameAndType 197 198), (0, u "cache"), (0, u "[Ljava/lang/Integer;"), (0, .methodref 1 200), (0, .nameAndType 67 201), (0, u "(I)V"), (0, .methodref 203 100), (0, .class_ 204), (0, u "java/lang/Number"), (0, .fieldref 1 206), (0, .nameAndType 207 194), (0, u "value"), (94, u "TYPE"), (0, u "Ljava/lang/Class;"), (0, .class_ 305), (0, u "java/lang/Comparable"), (0, .class_ 307), (0, u "java/lang/constant/Constable"), (0, .class_ 309), (0, u "java/lang/constant/ConstantDesc"), (0, u "MIN_VALUE"), (1, u "MAX_VALUE"), (3, u "SIZE"), (1, u "BYTES"), (1, u "serialVersionUID"), (0, u "J")] 131

def k8c0 : Code := { maxStack := 3, maxLocals := 1, code := jdk_33_method_22_code, exceptionTable := #[], attributes := #[] }
def k8m0 : Method := { name := "valueOf", desc := "(I)Ljava/lang/Integer;", sig := { parameters := [.int], returnType := some (.object "java/lang/Integer") }, accessFlags := 9, code := some k8c0 }
def k8c1 : Code := { maxStack := 2, maxLocals := 2, code := jdk_33_method_23_code, exceptionTable := #[], attributes := #[] }
def k8m1 : Method := { name := "<init>", desc := "(I)V", sig := { parameters := [.int], returnType := none }, accessFlags := 1, code := some k8c1 }
/-- java/lang/Integer -/
def k8 : Class := { plain "java/lang/Integer" (some 4) with
  accessFlags := 49
  interfaces := #[5, 6, 7]
  cf := some (fileOf pool8 1 #[.nestMembers #[189]] #[{ accessFlags := 9, nameIndex := 187, descriptorIndex := 188, attributes := #[] }, { accessFlags := 1, nameIndex := 67, descriptorIndex := 201, attributes := #[] }] 49 203 #[304, 306, 308] #[{ accessFlags := 25, nameIndex := 310, descriptorIndex := 194, attributes := #[] }, { accessFlags := 25, nameIndex := 312, descriptorIndex := 194, attributes := #[] }, { accessFlags := 25, nameIndex := 302, descriptorIndex := 303, attributes := #[] }, { accessFlags := 24, nameIndex := 19, descriptorIndex := 20, attributes := #[] }, { accessFlags := 24, nameIndex := 89, descriptorIndex := 86, attributes := #[] }, { accessFlags := 24, nameIndex := 85, descriptorIndex := 86, attributes := #[] }, { accessFlags := 18, nameIndex := 207, descriptorIndex := 194, attributes := #[] }, { accessFlags := 25, nameIndex := 316, descriptorIndex := 194, attributes := #[] }, { accessFlags := 25, nameIndex := 318, descriptorIndex := 194, attributes := #[] }, { accessFlags := 26, nameIndex := 320, descriptorIndex := 321, attributes := #[] }])
  fields := #[{ name := "MIN_VALUE", type := .int, accessFlags := 25, slot := 0, constantValue := 0 }, { name := "MAX_VALUE", type := .int, accessFlags := 25, slot := 1, constantValue := 0 }, { name := "TYPE", type := (.object "java/lang/Class"), accessFlags := 25, slot := 2, constantValue := 0 }, { name := "digits", type := (.array .char), accessFlags := 24, slot := 3, constantValue := 0 }, { name := "DigitTens", type := (.array .byte), accessFlags := 24, slot := 4, constantValue := 0 }, { name := "DigitOnes", type := (.array .byte), accessFlags := 24, slot := 5, constantValue := 0 }, { name := "value", type := .int, accessFlags := 18, slot := 0, constantValue := 0 }, { name := "SIZE", type := .int, accessFlags := 25, slot := 6, constantValue := 0 }, { name := "BYTES", type := .int, accessFlags := 25, slot := 7, constantValue := 0 }, { name := "serialVersionUID", type := .long, accessFlags := 26, slot := 8, constantValue := 0 }]
  methods := #[k8m0, k8m1]
  instanceTypes := #[.int]
  staticTypes := #[.int, .int, (.object "java/lang/Class"), (.array .char), (.array .byte), (.array .byte), .int, .int, .long]
  resolved := Array.replicate 453 none
  statics := none }

def pool9 : Array CpInfo := pool [(2, .class_ 4), (1, u "java/lang/Object"), (0, u "<init>"), (0, u "()V"), (0, .class_ 8), (0, u "java/lang/Integer"), (7, .class_ 18), (1, u "java/lang/Integer$IntegerCache"), (0, u "$assertionsDisabled"), (0, u "Z"), (26, u "high"), (0, u "I"), (8, u "archivedCache"), (0, u "[Ljava/lang/Integer;"), (12, u "cache"), (0, u "low")] 27

def k9m0 : Method := { name := "<init>", desc := "()V", sig := { parameters := [], returnType := none }, accessFlags := 2, code := none }
/-- java/lang/Integer$IntegerCache -/
def k9 : Class := { plain "java/lang/Integer$IntegerCache" (some 0) with
  accessFlags := 48
  interfaces := #[]
  cf := some (fileOf pool9 16 #[.nestHost 7] #[{ accessFlags := 2, nameIndex := 5, descriptorIndex := 6, attributes := #[] }] 48 2 #[] #[{ accessFlags := 24, nameIndex := 72, descriptorIndex := 48, attributes := #[] }, { accessFlags := 24, nameIndex := 47, descriptorIndex := 48, attributes := #[] }, { accessFlags := 24, nameIndex := 71, descriptorIndex := 58, attributes := #[] }, { accessFlags := 8, nameIndex := 57, descriptorIndex := 58, attributes := #[] }, { accessFlags := 4120, nameIndex := 19, descriptorIndex := 20, attributes := #[] }])
  fields := #[{ name := "low", type := .int, accessFlags := 24, slot := 0, constantValue := 0 }, { name := "high", type := .int, accessFlags := 24, slot := 1, constantValue := 0 }, { name := "cache", type := (.array (.object "java/lang/Integer")), accessFlags := 24, slot := 2, constantValue := 0 }, { name := "archivedCache", type := (.array (.object "java/lang/Integer")), accessFlags := 8, slot := 3, constantValue := 0 }, { name := "$assertionsDisabled", type := .boolean, accessFlags := 4120, slot := 4, constantValue := 0 }]
  methods := #[k9m0]
  instanceTypes := #[]
  staticTypes := #[.int, .int, (.array (.object "java/lang/Integer")), (.array (.object "java/lang/Integer")), .boolean]
  resolved := Array.replicate 100 none
  statics := some 0 }

def pool10 : Array CpInfo := pool [(1, u "java/lang/Cloneable"), (0, .class_ 1), (0, u "java/lang/Object"), (0, .class_ 3)] 3

/-- java/lang/Cloneable -/
def k10 : Class := { plain "java/lang/Cloneable" (some 0) with
  accessFlags := 1537
  interfaces := #[]
  cf := some (fileOf pool10 2 #[] #[] 1537 4 #[] #[])
  fields := #[]
  methods := #[]
  instanceTypes := #[]
  staticTypes := #[]
  resolved := Array.replicate 8 none
  statics := none }

/-- the primitive byte -/
def k11 : Class := { plain "byte" none with kind := .primitive 'B', accessFlags := 0x411 }
/-- [B -/
def k12 : Class := { plain "[B" (some 0) with kind := .array 11 .byte, interfaces := #[10, 3], accessFlags := 1041 }

/-- the primitive int -/
def k13 : Class := { plain "int" none with kind := .primitive 'I', accessFlags := 0x411 }
/-- [I -/
def k14 : Class := { plain "[I" (some 0) with kind := .array 13 .int, interfaces := #[10, 3], accessFlags := 1041 }

/-- [Ljava/lang/Integer; -/
def k15 : Class := { plain "[Ljava/lang/Integer;" (some 0) with kind := .array 8 (.object "java/lang/Integer"), interfaces := #[10, 3], accessFlags := 1041 }

def heap : Heap := #[{ cls := 9, slots := #[.int 0, .int 127, .ref 1, .null, .int 0], vm := .statics 9 },
  { cls := 15, slots := #[.ref 2, .ref 3, .ref 4, .ref 5, .ref 6, .ref 7, .ref 8, .ref 9, .ref 10, .ref 11, .ref 12, .ref 13, .ref 14, .ref 15, .ref 16, .ref 17, .ref 18, .ref 19, .ref 20, .ref 21, .ref 22, .ref 23, .ref 24, .ref 25, .ref 26, .ref 27, .ref 28, .ref 29, .ref 30, .ref 31, .ref 32, .ref 33, .ref 34, .ref 35, .ref 36, .ref 37, .ref 38, .ref 39, .ref 40, .ref 41, .ref 42, .ref 43, .ref 44, .ref 45, .ref 46, .ref 47, .ref 48, .ref 49, .ref 50, .ref 51, .ref 52, .ref 53, .ref 54, .ref 55, .ref 56, .ref 57, .ref 58, .ref 59, .ref 60, .ref 61, .ref 62, .ref 63, .ref 64, .ref 65, .ref 66, .ref 67, .ref 68, .ref 69, .ref 70, .ref 71, .ref 72, .ref 73, .ref 74, .ref 75, .ref 76, .ref 77, .ref 78, .ref 79, .ref 80, .ref 81, .ref 82, .ref 83, .ref 84, .ref 85, .ref 86, .ref 87, .ref 88, .ref 89, .ref 90, .ref 91, .ref 92, .ref 93, .ref 94, .ref 95, .ref 96, .ref 97, .ref 98, .ref 99, .ref 100, .ref 101, .ref 102, .ref 103, .ref 104, .ref 105, .ref 106, .ref 107, .ref 108, .ref 109, .ref 110, .ref 111, .ref 112, .ref 113, .ref 114, .ref 115, .ref 116, .ref 117, .ref 118, .ref 119, .ref 120, .ref 121, .ref 122, .ref 123, .ref 124, .ref 125, .ref 126, .ref 127, .ref 128, .ref 129, .ref 130, .ref 131, .ref 132, .ref 133, .ref 134, .ref 135, .ref 136, .ref 137, .ref 138, .ref 139, .ref 140, .ref 141, .ref 142, .ref 143, .ref 144, .ref 145, .ref 146, .ref 147, .ref 148, .ref 149, .ref 150, .ref 151, .ref 152, .ref 153, .ref 154, .ref 155, .ref 156, .ref 157, .ref 158, .ref 159, .ref 160, .ref 161, .ref 162, .ref 163, .ref 164, .ref 165, .ref 166, .ref 167, .ref 168, .ref 169, .ref 170, .ref 171, .ref 172, .ref 173, .ref 174, .ref 175, .ref 176, .ref 177, .ref 178, .ref 179, .ref 180, .ref 181, .ref 182, .ref 183, .ref 184, .ref 185, .ref 186, .ref 187, .ref 188, .ref 189, .ref 190, .ref 191, .ref 192, .ref 193, .ref 194, .ref 195, .ref 196, .ref 197, .ref 198, .ref 199, .ref 200, .ref 201, .ref 202, .ref 203, .ref 204, .ref 205, .ref 206, .ref 207, .ref 208, .ref 209, .ref 210, .ref 211, .ref 212, .ref 213, .ref 214, .ref 215, .ref 216, .ref 217, .ref 218, .ref 219, .ref 220, .ref 221, .ref 222, .ref 223, .ref 224, .ref 225, .ref 226, .ref 227, .ref 228, .ref 229, .ref 230, .ref 231, .ref 232, .ref 233, .ref 234, .ref 235, .ref 236, .ref 237, .ref 238, .ref 239, .ref 240, .ref 241, .ref 242, .ref 243, .ref 244, .ref 245, .ref 246, .ref 247, .ref 248, .ref 249, .ref 250, .ref 251, .ref 252, .ref 253, .ref 254, .ref 255, .ref 256, .ref 257], vm := .none },
  { cls := 8, slots := #[.int (-128)], vm := .none },
  { cls := 8, slots := #[.int (-127)], vm := .none },
  { cls := 8, slots := #[.int (-126)], vm := .none },
  { cls := 8, slots := #[.int (-125)], vm := .none },
  { cls := 8, slots := #[.int (-124)], vm := .none },
  { cls := 8, slots := #[.int (-123)], vm := .none },
  { cls := 8, slots := #[.int (-122)], vm := .none },
  { cls := 8, slots := #[.int (-121)], vm := .none },
  { cls := 8, slots := #[.int (-120)], vm := .none },
  { cls := 8, slots := #[.int (-119)], vm := .none },
  { cls := 8, slots := #[.int (-118)], vm := .none },
  { cls := 8, slots := #[.int (-117)], vm := .none },
  { cls := 8, slots := #[.int (-116)], vm := .none },
  { cls := 8, slots := #[.int (-115)], vm := .none },
  { cls := 8, slots := #[.int (-114)], vm := .none },
  { cls := 8, slots := #[.int (-113)], vm := .none },
  { cls := 8, slots := #[.int (-112)], vm := .none },
  { cls := 8, slots := #[.int (-111)], vm := .none },
  { cls := 8, slots := #[.int (-110)], vm := .none },
  { cls := 8, slots := #[.int (-109)], vm := .none },
  { cls := 8, slots := #[.int (-108)], vm := .none },
  { cls := 8, slots := #[.int (-107)], vm := .none },
  { cls := 8, slots := #[.int (-106)], vm := .none },
  { cls := 8, slots := #[.int (-105)], vm := .none },
  { cls := 8, slots := #[.int (-104)], vm := .none },
  { cls := 8, slots := #[.int (-103)], vm := .none },
  { cls := 8, slots := #[.int (-102)], vm := .none },
  { cls := 8, slots := #[.int (-101)], vm := .none },
  { cls := 8, slots := #[.int (-100)], vm := .none },
  { cls := 8, slots := #[.int (-99)], vm := .none },
  { cls := 8, slots := #[.int (-98)], vm := .none },
  { cls := 8, slots := #[.int (-97)], vm := .none },
  { cls := 8, slots := #[.int (-96)], vm := .none },
  { cls := 8, slots := #[.int (-95)], vm := .none },
  { cls := 8, slots := #[.int (-94)], vm := .none },
  { cls := 8, slots := #[.int (-93)], vm := .none },
  { cls := 8, slots := #[.int (-92)], vm := .none },
  { cls := 8, slots := #[.int (-91)], vm := .none },
  { cls := 8, slots := #[.int (-90)], vm := .none },
  { cls := 8, slots := #[.int (-89)], vm := .none },
  { cls := 8, slots := #[.int (-88)], vm := .none },
  { cls := 8, slots := #[.int (-87)], vm := .none },
  { cls := 8, slots := #[.int (-86)], vm := .none },
  { cls := 8, slots := #[.int (-85)], vm := .none },
  { cls := 8, slots := #[.int (-84)], vm := .none },
  { cls := 8, slots := #[.int (-83)], vm := .none },
  { cls := 8, slots := #[.int (-82)], vm := .none },
  { cls := 8, slots := #[.int (-81)], vm := .none },
  { cls := 8, slots := #[.int (-80)], vm := .none },
  { cls := 8, slots := #[.int (-79)], vm := .none },
  { cls := 8, slots := #[.int (-78)], vm := .none },
  { cls := 8, slots := #[.int (-77)], vm := .none },
  { cls := 8, slots := #[.int (-76)], vm := .none },
  { cls := 8, slots := #[.int (-75)], vm := .none },
  { cls := 8, slots := #[.int (-74)], vm := .none },
  { cls := 8, slots := #[.int (-73)], vm := .none },
  { cls := 8, slots := #[.int (-72)], vm := .none },
  { cls := 8, slots := #[.int (-71)], vm := .none },
  { cls := 8, slots := #[.int (-70)], vm := .none },
  { cls := 8, slots := #[.int (-69)], vm := .none },
  { cls := 8, slots := #[.int (-68)], vm := .none },
  { cls := 8, slots := #[.int (-67)], vm := .none },
  { cls := 8, slots := #[.int (-66)], vm := .none },
  { cls := 8, slots := #[.int (-65)], vm := .none },
  { cls := 8, slots := #[.int (-64)], vm := .none },
  { cls := 8, slots := #[.int (-63)], vm := .none },
  { cls := 8, slots := #[.int (-62)], vm := .none },
  { cls := 8, slots := #[.int (-61)], vm := .none },
  { cls := 8, slots := #[.int (-60)], vm := .none },
  { cls := 8, slots := #[.int (-59)], vm := .none },
  { cls := 8, slots := #[.int (-58)], vm := .none },
  { cls := 8, slots := #[.int (-57)], vm := .none },
  { cls := 8, slots := #[.int (-56)], vm := .none },
  { cls := 8, slots := #[.int (-55)], vm := .none },
  { cls := 8, slots := #[.int (-54)], vm := .none },
  { cls := 8, slots := #[.int (-53)], vm := .none },
  { cls := 8, slots := #[.int (-52)], vm := .none },
  { cls := 8, slots := #[.int (-51)], vm := .none },
  { cls := 8, slots := #[.int (-50)], vm := .none },
  { cls := 8, slots := #[.int (-49)], vm := .none },
  { cls := 8, slots := #[.int (-48)], vm := .none },
  { cls := 8, slots := #[.int (-47)], vm := .none },
  { cls := 8, slots := #[.int (-46)], vm := .none },
  { cls := 8, slots := #[.int (-45)], vm := .none },
  { cls := 8, slots := #[.int (-44)], vm := .none },
  { cls := 8, slots := #[.int (-43)], vm := .none },
  { cls := 8, slots := #[.int (-42)], vm := .none },
  { cls := 8, slots := #[.int (-41)], vm := .none },
  { cls := 8, slots := #[.int (-40)], vm := .none },
  { cls := 8, slots := #[.int (-39)], vm := .none },
  { cls := 8, slots := #[.int (-38)], vm := .none },
  { cls := 8, slots := #[.int (-37)], vm := .none },
  { cls := 8, slots := #[.int (-36)], vm := .none },
  { cls := 8, slots := #[.int (-35)], vm := .none },
  { cls := 8, slots := #[.int (-34)], vm := .none },
  { cls := 8, slots := #[.int (-33)], vm := .none },
  { cls := 8, slots := #[.int (-32)], vm := .none },
  { cls := 8, slots := #[.int (-31)], vm := .none },
  { cls := 8, slots := #[.int (-30)], vm := .none },
  { cls := 8, slots := #[.int (-29)], vm := .none },
  { cls := 8, slots := #[.int (-28)], vm := .none },
  { cls := 8, slots := #[.int (-27)], vm := .none },
  { cls := 8, slots := #[.int (-26)], vm := .none },
  { cls := 8, slots := #[.int (-25)], vm := .none },
  { cls := 8, slots := #[.int (-24)], vm := .none },
  { cls := 8, slots := #[.int (-23)], vm := .none },
  { cls := 8, slots := #[.int (-22)], vm := .none },
  { cls := 8, slots := #[.int (-21)], vm := .none },
  { cls := 8, slots := #[.int (-20)], vm := .none },
  { cls := 8, slots := #[.int (-19)], vm := .none },
  { cls := 8, slots := #[.int (-18)], vm := .none },
  { cls := 8, slots := #[.int (-17)], vm := .none },
  { cls := 8, slots := #[.int (-16)], vm := .none },
  { cls := 8, slots := #[.int (-15)], vm := .none },
  { cls := 8, slots := #[.int (-14)], vm := .none },
  { cls := 8, slots := #[.int (-13)], vm := .none },
  { cls := 8, slots := #[.int (-12)], vm := .none },
  { cls := 8, slots := #[.int (-11)], vm := .none },
  { cls := 8, slots := #[.int (-10)], vm := .none },
  { cls := 8, slots := #[.int (-9)], vm := .none },
  { cls := 8, slots := #[.int (-8)], vm := .none },
  { cls := 8, slots := #[.int (-7)], vm := .none },
  { cls := 8, slots := #[.int (-6)], vm := .none },
  { cls := 8, slots := #[.int (-5)], vm := .none },
  { cls := 8, slots := #[.int (-4)], vm := .none },
  { cls := 8, slots := #[.int (-3)], vm := .none },
  { cls := 8, slots := #[.int (-2)], vm := .none },
  { cls := 8, slots := #[.int (-1)], vm := .none },
  { cls := 8, slots := #[.int 0], vm := .none },
  { cls := 8, slots := #[.int 1], vm := .none },
  { cls := 8, slots := #[.int 2], vm := .none },
  { cls := 8, slots := #[.int 3], vm := .none },
  { cls := 8, slots := #[.int 4], vm := .none },
  { cls := 8, slots := #[.int 5], vm := .none },
  { cls := 8, slots := #[.int 6], vm := .none },
  { cls := 8, slots := #[.int 7], vm := .none },
  { cls := 8, slots := #[.int 8], vm := .none },
  { cls := 8, slots := #[.int 9], vm := .none },
  { cls := 8, slots := #[.int 10], vm := .none },
  { cls := 8, slots := #[.int 11], vm := .none },
  { cls := 8, slots := #[.int 12], vm := .none },
  { cls := 8, slots := #[.int 13], vm := .none },
  { cls := 8, slots := #[.int 14], vm := .none },
  { cls := 8, slots := #[.int 15], vm := .none },
  { cls := 8, slots := #[.int 16], vm := .none },
  { cls := 8, slots := #[.int 17], vm := .none },
  { cls := 8, slots := #[.int 18], vm := .none },
  { cls := 8, slots := #[.int 19], vm := .none },
  { cls := 8, slots := #[.int 20], vm := .none },
  { cls := 8, slots := #[.int 21], vm := .none },
  { cls := 8, slots := #[.int 22], vm := .none },
  { cls := 8, slots := #[.int 23], vm := .none },
  { cls := 8, slots := #[.int 24], vm := .none },
  { cls := 8, slots := #[.int 25], vm := .none },
  { cls := 8, slots := #[.int 26], vm := .none },
  { cls := 8, slots := #[.int 27], vm := .none },
  { cls := 8, slots := #[.int 28], vm := .none },
  { cls := 8, slots := #[.int 29], vm := .none },
  { cls := 8, slots := #[.int 30], vm := .none },
  { cls := 8, slots := #[.int 31], vm := .none },
  { cls := 8, slots := #[.int 32], vm := .none },
  { cls := 8, slots := #[.int 33], vm := .none },
  { cls := 8, slots := #[.int 34], vm := .none },
  { cls := 8, slots := #[.int 35], vm := .none },
  { cls := 8, slots := #[.int 36], vm := .none },
  { cls := 8, slots := #[.int 37], vm := .none },
  { cls := 8, slots := #[.int 38], vm := .none },
  { cls := 8, slots := #[.int 39], vm := .none },
  { cls := 8, slots := #[.int 40], vm := .none },
  { cls := 8, slots := #[.int 41], vm := .none },
  { cls := 8, slots := #[.int 42], vm := .none },
  { cls := 8, slots := #[.int 43], vm := .none },
  { cls := 8, slots := #[.int 44], vm := .none },
  { cls := 8, slots := #[.int 45], vm := .none },
  { cls := 8, slots := #[.int 46], vm := .none },
  { cls := 8, slots := #[.int 47], vm := .none },
  { cls := 8, slots := #[.int 48], vm := .none },
  { cls := 8, slots := #[.int 49], vm := .none },
  { cls := 8, slots := #[.int 50], vm := .none },
  { cls := 8, slots := #[.int 51], vm := .none },
  { cls := 8, slots := #[.int 52], vm := .none },
  { cls := 8, slots := #[.int 53], vm := .none },
  { cls := 8, slots := #[.int 54], vm := .none },
  { cls := 8, slots := #[.int 55], vm := .none },
  { cls := 8, slots := #[.int 56], vm := .none },
  { cls := 8, slots := #[.int 57], vm := .none },
  { cls := 8, slots := #[.int 58], vm := .none },
  { cls := 8, slots := #[.int 59], vm := .none },
  { cls := 8, slots := #[.int 60], vm := .none },
  { cls := 8, slots := #[.int 61], vm := .none },
  { cls := 8, slots := #[.int 62], vm := .none },
  { cls := 8, slots := #[.int 63], vm := .none },
  { cls := 8, slots := #[.int 64], vm := .none },
  { cls := 8, slots := #[.int 65], vm := .none },
  { cls := 8, slots := #[.int 66], vm := .none },
  { cls := 8, slots := #[.int 67], vm := .none },
  { cls := 8, slots := #[.int 68], vm := .none },
  { cls := 8, slots := #[.int 69], vm := .none },
  { cls := 8, slots := #[.int 70], vm := .none },
  { cls := 8, slots := #[.int 71], vm := .none },
  { cls := 8, slots := #[.int 72], vm := .none },
  { cls := 8, slots := #[.int 73], vm := .none },
  { cls := 8, slots := #[.int 74], vm := .none },
  { cls := 8, slots := #[.int 75], vm := .none },
  { cls := 8, slots := #[.int 76], vm := .none },
  { cls := 8, slots := #[.int 77], vm := .none },
  { cls := 8, slots := #[.int 78], vm := .none },
  { cls := 8, slots := #[.int 79], vm := .none },
  { cls := 8, slots := #[.int 80], vm := .none },
  { cls := 8, slots := #[.int 81], vm := .none },
  { cls := 8, slots := #[.int 82], vm := .none },
  { cls := 8, slots := #[.int 83], vm := .none },
  { cls := 8, slots := #[.int 84], vm := .none },
  { cls := 8, slots := #[.int 85], vm := .none },
  { cls := 8, slots := #[.int 86], vm := .none },
  { cls := 8, slots := #[.int 87], vm := .none },
  { cls := 8, slots := #[.int 88], vm := .none },
  { cls := 8, slots := #[.int 89], vm := .none },
  { cls := 8, slots := #[.int 90], vm := .none },
  { cls := 8, slots := #[.int 91], vm := .none },
  { cls := 8, slots := #[.int 92], vm := .none },
  { cls := 8, slots := #[.int 93], vm := .none },
  { cls := 8, slots := #[.int 94], vm := .none },
  { cls := 8, slots := #[.int 95], vm := .none },
  { cls := 8, slots := #[.int 96], vm := .none },
  { cls := 8, slots := #[.int 97], vm := .none },
  { cls := 8, slots := #[.int 98], vm := .none },
  { cls := 8, slots := #[.int 99], vm := .none },
  { cls := 8, slots := #[.int 100], vm := .none },
  { cls := 8, slots := #[.int 101], vm := .none },
  { cls := 8, slots := #[.int 102], vm := .none },
  { cls := 8, slots := #[.int 103], vm := .none },
  { cls := 8, slots := #[.int 104], vm := .none },
  { cls := 8, slots := #[.int 105], vm := .none },
  { cls := 8, slots := #[.int 106], vm := .none },
  { cls := 8, slots := #[.int 107], vm := .none },
  { cls := 8, slots := #[.int 108], vm := .none },
  { cls := 8, slots := #[.int 109], vm := .none },
  { cls := 8, slots := #[.int 110], vm := .none },
  { cls := 8, slots := #[.int 111], vm := .none },
  { cls := 8, slots := #[.int 112], vm := .none },
  { cls := 8, slots := #[.int 113], vm := .none },
  { cls := 8, slots := #[.int 114], vm := .none },
  { cls := 8, slots := #[.int 115], vm := .none },
  { cls := 8, slots := #[.int 116], vm := .none },
  { cls := 8, slots := #[.int 117], vm := .none },
  { cls := 8, slots := #[.int 118], vm := .none },
  { cls := 8, slots := #[.int 119], vm := .none },
  { cls := 8, slots := #[.int 120], vm := .none },
  { cls := 8, slots := #[.int 121], vm := .none },
  { cls := 8, slots := #[.int 122], vm := .none },
  { cls := 8, slots := #[.int 123], vm := .none },
  { cls := 8, slots := #[.int 124], vm := .none },
  { cls := 8, slots := #[.int 125], vm := .none },
  { cls := 8, slots := #[.int 126], vm := .none },
  { cls := 8, slots := #[.int 127], vm := .none }]
def classes : Array Class := #[k0, k1, k2, k3, k4, k5, k6, k7, k8, k9, k10, k11, k12, k13, k14, k15]
def interned : List (Array UInt16 × Addr) := []
def slotsUsed : Nat := 517
def theMethod : MethodId := ⟨1, 1⟩
def args0 : Array Value := #[.int 3, .int 4, .int 5, .int 6, .int 7]
def aboutOver (below : List Frame) : State where
  vm := { classes := classes, interned := interned.toArray }
  heap := heap
  slotsUsed := slotsUsed
  threads := #[{ frames := .invoking theMethod args0 :: below }]
def below0 : List Frame := [.native { method := ⟨0, 0⟩, args := #[] }]
def about1 : State := aboutOver below0
def p0 : Program := .bare "" "" ""
def e0 : Env := launch0.env 0 0 0
theorem w_frames : about1.frames = Frame.invoking theMethod args0 :: below0 := rfl
set_option maxRecDepth 65536 in
theorem w_args : argsFit about1.vm theMethod args0 = true := by decide +kernel
set_option maxRecDepth 65536 in
theorem w_heap : heapFits about1 = true := by decide +kernel
set_option maxRecDepth 65536 in
theorem w_runnable : about1.curStatus? = some .runnable := by decide +kernel
set_option maxRecDepth 65536 in
theorem w_alone : about1.alone = true := by decide +kernel
set_option maxRecDepth 65536 in
theorem w_named : about1.methodNamed? x = some theMethod := by decide +kernel
set_option maxRecDepth 65536 in
theorem w_hears : about1.hears theMethod below0 = true := by decide +kernel
set_option maxRecDepth 65536 in
theorem w_ripe : about1.ripe theMethod args0 below0 = true := by decide +kernel
theorem w_running : about1.status = .running := rfl
set_option maxRecDepth 65536 in
theorem w_room : about1.hasRoom e0.platform room_1 = true :=
  launch0.hasRoom_least _ room_1 (by decide +kernel) (by decide +kernel) (by decide +kernel) (by decide +kernel) (by decide +kernel) (by decide +kernel)
theorem allAtoms_all (ts : List Jvm.Cond) (a : Array Jvm.Value) (st : Jvm.State) : (allAtoms ts).before a st = ts.all (fun c => c.before a st) := by
  induction ts with
  | nil => rfl
  | cons c t ih =>
    show (Jvm.Cond.and c (allAtoms t)).before a st = _
    rw [Jvm.Cond.before_and, ih, List.all_cons]
def words1 : List Jvm.Cond := Jvm.Cond.code x code maxLocals ret :: tables_1
/-- a 'code' word, met by the world's own term for the bytes: nothing is compared byte by byte -/
theorem code_word {y : MethodName} {bytes : ByteArray} {mx : Nat} {rt : Option FieldType} {a : Array Value} {s : State} {m : MethodId} {meth : Method} {c : Code} (h1 : s.methodNamed? y = some m) (h2 : s.vm.method? m = some meth) (h3 : meth.code = some c) (h4 : c.code = bytes)
    (h5 : (c.maxLocals == mx && c.exceptionTable.isEmpty && decide (c.maxStack ≤ mostOperands) && decide (meth.sig.returnType = rt) && !meth.locks && decide (parseMethodDescriptor y.desc = some meth.sig)) = true) : (Jvm.Cond.code y bytes mx rt).before a s = true := by
  simp only [Bool.and_eq_true, beq_iff_eq, Bool.not_eq_true', decide_eq_true_eq] at h5
  obtain ⟨⟨⟨⟨⟨g1, g2⟩, g3⟩, g4⟩, g5⟩, g6⟩ := h5
  simp [Cond.before, Cond.holds, Cond.value, h1, h2, h3, h4, g1, g2, g3, g4, g5, g6]
def isCode : Jvm.Cond → Bool
  | .code _ _ _ _ => true
  | _ => false
theorem all_split {L : List Jvm.Cond} {P : Jvm.Cond → Bool} (h1 : L.all (fun c => isCode c || P c) = true) (h2 : ∀ c ∈ L.filter isCode, P c = true) : L.all P = true := by
  refine List.all_eq_true.mpr fun c hc => ?_
  have h := List.all_eq_true.mp h1 c hc
  rcases Bool.eq_false_or_eq_true (isCode c) with hi | hi
  · exact h2 c (List.mem_filter.mpr ⟨hc, hi⟩)
  · simpa [hi] using h
set_option maxRecDepth 65536 in
theorem w_c0 : (Jvm.Cond.code x code maxLocals ret).before args0 about1 = true := code_word (m := ⟨1, 1⟩) (meth := k1m1) (c := k1c1) (by decide +kernel) rfl rfl rfl (by decide +kernel)
set_option maxRecDepth 65536 in
theorem w_c1 : (Jvm.Cond.code ({ cls := "com/example/rank_by_likelihood/rankbylikelihood/model/DocumentStatistics", name := "<init>", desc := "(II)V" } : Jvm.MethodName) prog_59_method_1_code (3 : Nat) (Option.none : Option Jvm.ClassFile.FieldType)).before args0 about1 = true := code_word (m := ⟨2, 0⟩) (meth := k2m0) (c := k2c0) (by decide +kernel) rfl rfl rfl (by decide +kernel)
set_option maxRecDepth 65536 in
theorem w_c2 : (Jvm.Cond.code ({ cls := "java/lang/Object", name := "<init>", desc := "()V" } : Jvm.MethodName) object_method_1_code (1 : Nat) (Option.none : Option Jvm.ClassFile.FieldType)).before args0 about1 = true := code_word (m := ⟨0, 0⟩) (meth := k0m0) (c := k0c0) (by decide +kernel) rfl rfl rfl (by decide +kernel)
set_option maxRecDepth 65536 in
theorem w_c3 : (Jvm.Cond.code ({ cls := "com/example/rank_by_likelihood/rankbylikelihood/model/DocumentStatistics", name := "equals", desc := "(Ljava/lang/Object;)Z" } : Jvm.MethodName) prog_59_method_4_code (2 : Nat) (Option.some Jvm.ClassFile.FieldType.boolean)).before args0 about1 = true := code_word (m := ⟨2, 1⟩) (meth := k2m1) (c := k2c1) (by decide +kernel) rfl rfl rfl (by decide +kernel)
set_option maxRecDepth 65536 in
theorem w_c4 : (Jvm.Cond.code ({ cls := "java/lang/Integer", name := "valueOf", desc := "(I)Ljava/lang/Integer;" } : Jvm.MethodName) jdk_33_method_22_code (1 : Nat) (Option.some (Jvm.ClassFile.FieldType.object "java/lang/Integer"))).before args0 about1 = true := code_word (m := ⟨8, 0⟩) (meth := k8m0) (c := k8c0) (by decide +kernel) rfl rfl rfl (by decide +kernel)
set_option maxRecDepth 65536 in
theorem w_c5 : (Jvm.Cond.code ({ cls := "java/lang/Integer", name := "<init>", desc := "(I)V" } : Jvm.MethodName) jdk_33_method_23_code (2 : Nat) (Option.none : Option Jvm.ClassFile.FieldType)).before args0 about1 = true := code_word (m := ⟨8, 1⟩) (meth := k8m1) (c := k8c1) (by decide +kernel) rfl rfl rfl (by decide +kernel)
set_option maxRecDepth 65536 in
theorem w_c6 : (Jvm.Cond.code ({ cls := "java/lang/Number", name := "<init>", desc := "()V" } : Jvm.MethodName) jdk_18_method_1_code (1 : Nat) (Option.none : Option Jvm.ClassFile.FieldType)).before args0 about1 = true := code_word (m := ⟨4, 0⟩) (meth := k4m0) (c := k4c0) (by decide +kernel) rfl rfl rfl (by decide +kernel)
def codes1 : List Jvm.Cond := [Jvm.Cond.code x code maxLocals ret, Jvm.Cond.code ({ cls := "com/example/rank_by_likelihood/rankbylikelihood/model/DocumentStatistics", name := "<init>", desc := "(II)V" } : Jvm.MethodName) prog_59_method_1_code (3 : Nat) (Option.none : Option Jvm.ClassFile.FieldType), Jvm.Cond.code ({ cls := "java/lang/Object", name := "<init>", desc := "()V" } : Jvm.MethodName) object_method_1_code (1 : Nat) (Option.none : Option Jvm.ClassFile.FieldType), Jvm.Cond.code ({ cls := "com/example/rank_by_likelihood/rankbylikelihood/model/DocumentStatistics", name := "equals", desc := "(Ljava/lang/Object;)Z" } : Jvm.MethodName) prog_59_method_4_code (2 : Nat) (Option.some Jvm.ClassFile.FieldType.boolean), Jvm.Cond.code ({ cls := "java/lang/Integer", name := "valueOf", desc := "(I)Ljava/lang/Integer;" } : Jvm.MethodName) jdk_33_method_22_code (1 : Nat) (Option.some (Jvm.ClassFile.FieldType.object "java/lang/Integer")), Jvm.Cond.code ({ cls := "java/lang/Integer", name := "<init>", desc := "(I)V" } : Jvm.MethodName) jdk_33_method_23_code (2 : Nat) (Option.none : Option Jvm.ClassFile.FieldType), Jvm.Cond.code ({ cls := "java/lang/Number", name := "<init>", desc := "()V" } : Jvm.MethodName) jdk_18_method_1_code (1 : Nat) (Option.none : Option Jvm.ClassFile.FieldType)]
set_option maxRecDepth 65536 in
theorem codes_eq : words1.filter isCode = codes1 := rfl
theorem w_codes : ∀ c ∈ words1.filter isCode, c.before args0 about1 = true := by
  rw [codes_eq]
  intro c hc
  simp only [codes1, List.mem_cons, List.not_mem_nil, or_false] at hc
  rcases hc with rfl | rfl | rfl | rfl | rfl | rfl | rfl
  · exact w_c0
  · exact w_c1
  · exact w_c2
  · exact w_c3
  · exact w_c4
  · exact w_c5
  · exact w_c6
set_option maxRecDepth 65536 in
theorem w_t1 : (words1.take 24).all (fun c => isCode c || c.before args0 about1) = true := by decide +kernel
set_option maxRecDepth 65536 in
theorem w_t2 : (words1.drop 24).all (fun c => isCode c || c.before args0 about1) = true := by decide +kernel
theorem w_tables : (allAtoms (Jvm.Cond.code x code maxLocals ret :: tables_1)).before args0 about1 = true := by
  rw [allAtoms_all]
  show words1.all (fun c => c.before args0 about1) = true
  refine all_split ?_ w_codes
  rw [← List.take_append_drop 24 words1, List.all_append, w_t1, w_t2]
  rfl
set_option maxRecDepth 65536 in
theorem w_rest : rest_1_c.before args0 about1 = true := by decide +kernel
set_option maxRecDepth 65536 in
theorem w_case : (Jvm.Cond.and given_1 narrow_1).before args0 about1 = true := by decide +kernel
theorem w_applies : (headSpec (Jvm.Cond.code x code maxLocals ret :: tables_1) room_1).applies x e0.platform about1 = true :=
  (Spec.applies_iff w_frames).mpr ⟨w_running, w_runnable, w_alone, w_named, w_hears, w_ripe, w_room, w_tables⟩
theorem atStart : AtStart classFile x code maxLocals ret World_1 tables_1 room_1 Calls_1 rest_1 Pre_1 launch0 p0 e0 about1 theMethod args0 below0 :=
  ⟨lists_1, trivial, launch0.admits_env _ _ _, launch0.least_env, fairChoices_fair.cas, fairChoices_fair.clock, w_frames, w_args, w_heap, w_applies, trivial, w_rest, w_case⟩
end start1
theorem witness_1 : WitnessClaimed_1 := ⟨start1.p0, start1.e0, start1.about1, start1.theMethod, start1.args0, start1.below0, start1.atStart⟩
end Jvm.Pilot.@@N@@

import JvmDerived
import JvmDerived.Pilot.@@N@@Statement
import JvmDerived.Pilot.@@N@@Code
set_option linter.unusedVariables false
set_option linter.unusedSimpArgs false
namespace Jvm.Pilot.@@N@@
open Jvm Jvm.ClassFile Sem Op Lib Jvm.Free Jvm.Stand Jvm.LawKit Jvm.RoadKit Bundle Jvm.Pilot.@@N@@.Jvm.D
/-! ## the run in continuation form: 'Go G T g': from T with the top frame g the run ends as G says -/
def Go (p : Program) (e : Env) (below : List Frame) (G : State → Outcome → Prop) (T : State) (g : JFrame) : Prop :=
  ∃ s₂ o, Steps p.tables e below (T.setTop g) s₂ ∧ s₂.status = .running ∧ Ended s₂ below o ∧ G s₂ o
/-- what a contract asks of the end -/
def FinQ (s : State) (Q : Option Value → Heap → List Loc → Prop) (kc ks : Nat) (U' : State) (o : Outcome) : Prop :=
  ∃ v L, o = .returned v ∧ Q v U'.heap L ∧ FrameEnd s o U' L kc ks
/-- a body's contract, as backOf takes it -/
def Met1 (l : Launch) (Z : State) (y : MethodName) (bytes : ByteArray) (maxL : Nat) (rt : Option FieldType) (rm : Room) (as : Array Value) (h0 : Heap) (Q : Option Value → Heap → List Loc → Prop) : Prop :=
  ∀ ws : List Jvm.Cond, MetFree l y (head1 (Jvm.Cond.code y bytes maxL rt :: ws) rm) (fun a U => a = as ∧ Z.Warmed39 U.vm ∧ U.heap = h0) (fun _ _ _ _ _ => True)
    (fun _ U o U' => ∃ v L, o = .returned v ∧ Q v U'.heap L ∧ FrameEnd U o U' L rm.cells rm.slots)
section OwnGo
variable {p : Program} {l : Launch} {e : Env} {R : Room} {s : State} {m : MethodId} {args : Array Value} {below : List Frame} {meth : Method} {c : Code} {T T' : State} {locs : List Loc} {cells slots : Nat} {G : State → Outcome → Prop} {Ls : Array Slot} {st : List Value} {pc : Nat} {bs : ByteArray} {Z : State} {a0 : Array Value} {h : Heap} {g g' : JFrame}
theorem Go.by (q : ∀ t, Steps p.tables e below (T'.setTop g') t → Steps p.tables e below (T.setTop g) t) (k : Go p e below G T' g') : Go p e below G T g := by
  obtain ⟨s₂, o, h1, h2⟩ := k
  exact ⟨s₂, o, q _ h1, h2⟩
theorem own_met_of {Z : State} {y : MethodName} {bytes : ByteArray} {maxL : Nat} {rt : Option FieldType} {rm : Room} {as : Array Value} {h0 : Heap} {Q : Option Value → Heap → List Loc → Prop} {Ls0 : Array Slot} (hpl : plainFor y = true) (ef : ∀ m, entryFrame m as maxL = mkF m 0 Ls0 [])
    (body : ∀ (p : Program) (e : Env) (s : State) (m : MethodId) (below : List Frame) (meth : Method) (c : Code) (s₁ : State), Stand p l e rm s m as below meth c s₁ [] 0 0 → p.tables.exec = Jvm.exec → c.code = bytes → c.maxLocals = maxL → Z.Warmed39 s.vm → s.vm.findClass y.cls = some m.cls → meth.name = y.name → meth.sig.returnType = rt → meth.locks = false → s₁.heap = h0 →
      Go p e below (FinQ s Q rm.cells rm.slots) s₁ (mkF m 0 Ls0 [])) : Met1 l Z y bytes maxL rt rm as h0 Q := by
  intro ws
  refine MetFree.of_bodySF hpl hisR ?_
  intro p e s m args below meth c s₁ Bd hml0 hP hK
  obtain ⟨rfl, hZ, hh⟩ := hP
  have k := body p e s m below meth c s₁ (Stand.of_body Bd) Bd.exec Bd.bytes hml0 hZ (findClass_of_methodNamed Bd.named) (name_of_methodNamed Bd.named Bd.method).1 Bd.returns Bd.notSynchronized (by rw [← hh, Bd.state]; rfl)
  rw [← ef m] at k
  exact k
theorem own_leave {Q : Option Value → Heap → List Loc → Prop} {kc ks : Nat} {v : Option Value} (X : Stand p l e R s m args below meth c T locs cells slots) (hv : meth.sig.returnType = none → v = none) (hlk : meth.locks = false) (hc : cells ≤ kc) (hs : slots ≤ ks) (hQ : Q v T.heap locs)
    (k : ∀ fs, (∀ (f : JFrame) (acts : List Action), f.method = m → f.locked = none → f.entered = [] → (doReturn e (T.setTop f) acts v).1 = T.setFrames fs) → Steps p.tables e below (T.setTop g) (T.setFrames fs)) : Go p e below (FinQ s Q kc ks) T g := by
  obtain ⟨fs, hr, hrun, hended, hW, hsame⟩ := X.leave (v := v) hv hlk
  exact ⟨_, _, k fs hr, hrun, hended, _, _, rfl, hQ, ⟨_, rfl⟩, hW, hsame.mono hc hs⟩
theorem own_retI {Q : Option Value → Heap → List Loc → Prop} {kc ks : Nat} {z : Int32} (X : Stand p l e R s m args below meth c T locs cells slots) (hx : p.tables.exec = Jvm.exec) (hby : c.code = bs) (hret : meth.sig.returnType = some .int) (hlk : meth.locks = false) (hd : decode bs pc = .ok (.ireturn, 1)) (hc : cells ≤ kc) (hs : slots ≤ ks) (hQ : Q (some (.int z)) T.heap locs) : Go p e below (FinQ s Q kc ks) T (mkF m pc Ls (.int z :: st)) := by
  refine own_leave X (fun q => by rw [hret] at q; cases q) hlk hc hs hQ fun fs hr => ?_
  exact retOut X hx hret rfl (Or.inl ⟨rfl, Or.inl rfl, z, rfl⟩) (hb hby hd) hr
theorem own_retN {Q : Option Value → Heap → List Loc → Prop} {kc ks : Nat} {z z' : Int32} {t : FieldType} (X : Stand p l e R s m args below meth c T locs cells slots) (hx : p.tables.exec = Jvm.exec) (hby : c.code = bs) (hret : meth.sig.returnType = some t) (hlk : meth.locks = false) (ht : t = .boolean ∨ t = .byte ∨ t = .char ∨ t = .short) (hd : decode bs pc = .ok (.ireturn, 1)) (hc : cells ≤ kc) (hs : slots ≤ ks) (hn : nar t z = z') (hQ : Q (some (.int z')) T.heap locs) : Go p e below (FinQ s Q kc ks) T (mkF m pc Ls (.int z :: st)) := by
  subst hn
  refine own_leave X (fun q => by rw [hret] at q; cases q) hlk hc hs hQ fun fs hr => ?_
  exact retN X hx hret ht (hb hby hd) hr
theorem own_retJ {Q : Option Value → Heap → List Loc → Prop} {kc ks : Nat} {z : Int64} (X : Stand p l e R s m args below meth c T locs cells slots) (hx : p.tables.exec = Jvm.exec) (hby : c.code = bs) (hret : meth.sig.returnType = some .long) (hlk : meth.locks = false) (hd : decode bs pc = .ok (.lreturn, 1)) (hc : cells ≤ kc) (hs : slots ≤ ks) (hQ : Q (some (.long z)) T.heap locs) : Go p e below (FinQ s Q kc ks) T (mkF m pc Ls (.long z :: st)) := by
  refine own_leave X (fun q => by rw [hret] at q; cases q) hlk hc hs hQ fun fs hr => ?_
  exact retOut X hx hret rfl (Or.inr (Or.inl ⟨rfl, rfl, z, rfl⟩)) (hb hby hd) hr
theorem own_retA {Q : Option Value → Heap → List Loc → Prop} {kc ks : Nat} {w : Value} {t : FieldType} (X : Stand p l e R s m args below meth c T locs cells slots) (hx : p.tables.exec = Jvm.exec) (hby : c.code = bs) (hret : meth.sig.returnType = some t) (hlk : meth.locks = false) (ht : t.isReference = true) (hw : w.isRef = true) (hn : narrow t w = w) (hd : decode bs pc = .ok (.areturn, 1)) (hc : cells ≤ kc) (hs : slots ≤ ks) (hQ : Q (some w) T.heap locs) : Go p e below (FinQ s Q kc ks) T (mkF m pc Ls (w :: st)) := by
  refine own_leave X (fun q => by rw [hret] at q; cases q) hlk hc hs hQ fun fs hr => ?_
  exact retOut X hx hret hn (Or.inr (Or.inr (Or.inr (Or.inr ⟨rfl, ht, hw⟩)))) (hb hby hd) hr
theorem own_ret {Q : Option Value → Heap → List Loc → Prop} {kc ks : Nat} (X : Stand p l e R s m args below meth c T locs cells slots) (hx : p.tables.exec = Jvm.exec) (hby : c.code = bs) (hret : meth.sig.returnType = none) (hlk : meth.locks = false) (hd : decode bs pc = .ok (.return_, 1)) (hc : cells ≤ kc) (hs : slots ≤ ks) (hQ : Q none T.heap locs) : Go p e below (FinQ s Q kc ks) T (mkF m pc Ls []) := by
  refine own_leave X (fun _ => rfl) hlk hc hs hQ fun fs hr => ?_
  exact X.returnOut hx hret (hb hby hd) hr
theorem own_iload (X : Stand p l e R s m args below meth c T locs cells slots) (hx : p.tables.exec = Jvm.exec) (hby : c.code = bs) {n : Nat} (v : Int32) (hd : decode bs pc = .ok (.iload n, 2)) (hl : Ls[n]? = some (.val (.int v))) (pc' : Nat) (hp : pc + 2 = pc') (k : Go p e below G T (mkF m pc' Ls (.int v :: st))) : Go p e below G T (mkF m pc Ls st) := by
  subst hp
  exact Go.by (fun t q => XS.iload X.here hx rfl (hb hby hd) hl q) k
theorem own_iloadN (X : Stand p l e R s m args below meth c T locs cells slots) (hx : p.tables.exec = Jvm.exec) (hby : c.code = bs) {n : Fin 4} (v : Int32) (hd : decode bs pc = .ok (.iload_n n, 1)) (hl : Ls[n.val]? = some (.val (.int v))) (pc' : Nat) (hp : pc + 1 = pc') (k : Go p e below G T (mkF m pc' Ls (.int v :: st))) : Go p e below G T (mkF m pc Ls st) := by
  subst hp
  exact Go.by (fun t q => XS.iloadN X.here hx rfl (hb hby hd) hl q) k
theorem own_istore (X : Stand p l e R s m args below meth c T locs cells slots) (hx : p.tables.exec = Jvm.exec) (hby : c.code = bs) {n : Nat} {x x' : Int32} (hd : decode bs pc = .ok (.istore n, 2)) (ex : x = x') {l' : Array Slot} (hl : storeLocals Ls n (.int x') = some l') (pc' : Nat) (hp : pc + 2 = pc') (k : Go p e below G T (mkF m pc' l' st)) : Go p e below G T (mkF m pc Ls (.int x :: st)) := by
  subst hp
  subst ex
  exact Go.by (fun t q => XS.istore X.here hx rfl (hb hby hd) rfl hl q) k
theorem own_istoreN (X : Stand p l e R s m args below meth c T locs cells slots) (hx : p.tables.exec = Jvm.exec) (hby : c.code = bs) {n : Fin 4} {x x' : Int32} (hd : decode bs pc = .ok (.istore_n n, 1)) (ex : x = x') {l' : Array Slot} (hl : storeLocals Ls n.val (.int x') = some l') (pc' : Nat) (hp : pc + 1 = pc') (k : Go p e below G T (mkF m pc' l' st)) : Go p e below G T (mkF m pc Ls (.int x :: st)) := by
  subst hp
  subst ex
  exact Go.by (fun t q => XS.istoreN X.here hx rfl (hb hby hd) rfl hl q) k
theorem own_lload (X : Stand p l e R s m args below meth c T locs cells slots) (hx : p.tables.exec = Jvm.exec) (hby : c.code = bs) {n : Nat} (v : Int64) (hd : decode bs pc = .ok (.lload n, 2)) (hl : Ls[n]? = some (.val (.long v))) (pc' : Nat) (hp : pc + 2 = pc') (k : Go p e below G T (mkF m pc' Ls (.long v :: st))) : Go p e below G T (mkF m pc Ls st) := by
  subst hp
  exact Go.by (fun t q => XS.lload X.here hx rfl (hb hby hd) hl q) k
theorem own_lloadN (X : Stand p l e R s m args below meth c T locs cells slots) (hx : p.tables.exec = Jvm.exec) (hby : c.code = bs) {n : Fin 4} (v : Int64) (hd : decode bs pc = .ok (.lload_n n, 1)) (hl : Ls[n.val]? = some (.val (.long v))) (pc' : Nat) (hp : pc + 1 = pc') (k : Go p e below G T (mkF m pc' Ls (.long v :: st))) : Go p e below G T (mkF m pc Ls st) := by
  subst hp
  exact Go.by (fun t q => XS.lloadN X.here hx rfl (hb hby hd) hl q) k
theorem own_lstore (X : Stand p l e R s m args below meth c T locs cells slots) (hx : p.tables.exec = Jvm.exec) (hby : c.code = bs) {n : Nat} {x x' : Int64} (hd : decode bs pc = .ok (.lstore n, 2)) (ex : x = x') {l' : Array Slot} (hl : storeLocals Ls n (.long x') = some l') (pc' : Nat) (hp : pc + 2 = pc') (k : Go p e below G T (mkF m pc' l' st)) : Go p e below G T (mkF m pc Ls (.long x :: st)) := by
  subst hp
  subst ex
  exact Go.by (fun t q => XS.lstore X.here hx rfl (hb hby hd) rfl hl q) k
theorem own_lstoreN (X : Stand p l e R s m args below meth c T locs cells slots) (hx : p.tables.exec = Jvm.exec) (hby : c.code = bs) {n : Fin 4} {x x' : Int64} (hd : decode bs pc = .ok (.lstore_n n, 1)) (ex : x = x') {l' : Array Slot} (hl : storeLocals Ls n.val (.long x') = some l') (pc' : Nat) (hp : pc + 1 = pc') (k : Go p e below G T (mkF m pc' l' st)) : Go p e below G T (mkF m pc Ls (.long x :: st)) := by
  subst hp
  subst ex
  exact Go.by (fun t q => XS.lstoreN X.here hx rfl (hb hby hd) rfl hl q) k
theorem own_aload (X : Stand p l e R s m args below meth c T locs cells slots) (hx : p.tables.exec = Jvm.exec) (hby : c.code = bs) {n : Nat} (v : Value) (hd : decode bs pc = .ok (.aload n, 2)) (hl : Ls[n]? = some (.val v)) (hv : v.isRef = true) (pc' : Nat) (hp : pc + 2 = pc') (k : Go p e below G T (mkF m pc' Ls (v :: st))) : Go p e below G T (mkF m pc Ls st) := by
  subst hp
  exact Go.by (fun t q => XS.aload X.here hx rfl (hb hby hd) hl hv q) k
theorem own_aloadN (X : Stand p l e R s m args below meth c T locs cells slots) (hx : p.tables.exec = Jvm.exec) (hby : c.code = bs) {n : Fin 4} (v : Value) (hd : decode bs pc = .ok (.aload_n n, 1)) (hl : Ls[n.val]? = some (.val v)) (hv : v.isRef = true) (pc' : Nat) (hp : pc + 1 = pc') (k : Go p e below G T (mkF m pc' Ls (v :: st))) : Go p e below G T (mkF m pc Ls st) := by
  subst hp
  exact Go.by (fun t q => XS.aloadN X.here hx rfl (hb hby hd) hl hv q) k
theorem own_astore (X : Stand p l e R s m args below meth c T locs cells slots) (hx : p.tables.exec = Jvm.exec) (hby : c.code = bs) {n : Nat} {x : Value} (hd : decode bs pc = .ok (.astore n, 2)) (hv : x.isRef = true) {l' : Array Slot} (hl : storeLocals Ls n x = some l') (pc' : Nat) (hp : pc + 2 = pc') (k : Go p e below G T (mkF m pc' l' st)) : Go p e below G T (mkF m pc Ls (x :: st)) := by
  subst hp
  exact Go.by (fun t q => XS.astore X.here hx rfl (hb hby hd) rfl hv hl q) k
theorem own_astoreN (X : Stand p l e R s m args below meth c T locs cells slots) (hx : p.tables.exec = Jvm.exec) (hby : c.code = bs) {n : Fin 4} {x : Value} (hd : decode bs pc = .ok (.astore_n n, 1)) (hv : x.isRef = true) {l' : Array Slot} (hl : storeLocals Ls n.val x = some l') (pc' : Nat) (hp : pc + 1 = pc') (k : Go p e below G T (mkF m pc' l' st)) : Go p e below G T (mkF m pc Ls (x :: st)) := by
  subst hp
  exact Go.by (fun t q => XS.astoreN X.here hx rfl (hb hby hd) rfl hv hl q) k
theorem own_iconst (X : Stand p l e R s m args below meth c T locs cells slots) (hx : p.tables.exec = Jvm.exec) (hby : c.code = bs) {i : Int} (v : Int32) (hd : decode bs pc = .ok (.iconst i, 1)) (hv : Int32.ofInt i = v) (pc' : Nat) (hp : pc + 1 = pc') (k : Go p e below G T (mkF m pc' Ls (.int v :: st))) : Go p e below G T (mkF m pc Ls st) := by
  subst hp
  subst hv
  exact Go.by (fun t q => XS.iconst X.here hx rfl (hb hby hd) q) k
theorem own_bipush (X : Stand p l e R s m args below meth c T locs cells slots) (hx : p.tables.exec = Jvm.exec) (hby : c.code = bs) {i : Int} (v : Int32) (hd : decode bs pc = .ok (.bipush i, 2)) (hv : (Int8.ofInt i).toInt32 = v) (pc' : Nat) (hp : pc + 2 = pc') (k : Go p e below G T (mkF m pc' Ls (.int v :: st))) : Go p e below G T (mkF m pc Ls st) := by
  subst hp
  subst hv
  exact Go.by (fun t q => XS.bipush X.here hx rfl (hb hby hd) q) k
theorem own_sipush (X : Stand p l e R s m args below meth c T locs cells slots) (hx : p.tables.exec = Jvm.exec) (hby : c.code = bs) {i : Int} (v : Int32) (hd : decode bs pc = .ok (.sipush i, 3)) (hv : (Int16.ofInt i).toInt32 = v) (pc' : Nat) (hp : pc + 3 = pc') (k : Go p e below G T (mkF m pc' Ls (.int v :: st))) : Go p e below G T (mkF m pc Ls st) := by
  subst hp
  subst hv
  exact Go.by (fun t q => XS.sipush X.here hx rfl (hb hby hd) q) k
theorem own_lconst (X : Stand p l e R s m args below meth c T locs cells slots) (hx : p.tables.exec = Jvm.exec) (hby : c.code = bs) {i : Fin 2} (v : Int64) (hd : decode bs pc = .ok (.lconst i, 1)) (hv : Int64.ofNat i = v) (pc' : Nat) (hp : pc + 1 = pc') (k : Go p e below G T (mkF m pc' Ls (.long v :: st))) : Go p e below G T (mkF m pc Ls st) := by
  subst hp
  subst hv
  exact Go.by (fun t q => XS.lconst X.here hx rfl (hb hby hd) q) k
theorem own_aconstNull (X : Stand p l e R s m args below meth c T locs cells slots) (hx : p.tables.exec = Jvm.exec) (hby : c.code = bs)  (hd : decode bs pc = .ok (.aconst_null, 1))  (pc' : Nat) (hp : pc + 1 = pc') (k : Go p e below G T (mkF m pc' Ls (.null :: st))) : Go p e below G T (mkF m pc Ls st) := by
  subst hp
  exact Go.by (fun t q => XS.aconstNull X.here hx rfl (hb hby hd) q) k
theorem own_iadd (X : Stand p l e R s m args below meth c T locs cells slots) (hx : p.tables.exec = Jvm.exec) (hby : c.code = bs) {x y : Int32} (hd : decode bs pc = .ok (.iadd, 1))  (pc' : Nat) (hp : pc + 1 = pc') (k : Go p e below G T (mkF m pc' Ls (.int (x + y) :: st))) : Go p e below G T (mkF m pc Ls (.int y :: .int x :: st)) := by
  subst hp
  exact Go.by (fun t q => XS.iadd X.here hx rfl (hb hby hd) rfl q) k
theorem own_isub (X : Stand p l e R s m args below meth c T locs cells slots) (hx : p.tables.exec = Jvm.exec) (hby : c.code = bs) {x y : Int32} (hd : decode bs pc = .ok (.isub, 1))  (pc' : Nat) (hp : pc + 1 = pc') (k : Go p e below G T (mkF m pc' Ls (.int (x - y) :: st))) : Go p e below G T (mkF m pc Ls (.int y :: .int x :: st)) := by
  subst hp
  exact Go.by (fun t q => XS.isub X.here hx rfl (hb hby hd) rfl q) k
theorem own_imul (X : Stand p l e R s m args below meth c T locs cells slots) (hx : p.tables.exec = Jvm.exec) (hby : c.code = bs) {x y : Int32} (hd : decode bs pc = .ok (.imul, 1))  (pc' : Nat) (hp : pc + 1 = pc') (k : Go p e below G T (mkF m pc' Ls (.int (x * y) :: st))) : Go p e below G T (mkF m pc Ls (.int y :: .int x :: st)) := by
  subst hp
  exact Go.by (fun t q => XS.imul X.here hx rfl (hb hby hd) rfl q) k
theorem own_iand (X : Stand p l e R s m args below meth c T locs cells slots) (hx : p.tables.exec = Jvm.exec) (hby : c.code = bs) {x y : Int32} (hd : decode bs pc = .ok (.iand, 1))  (pc' : Nat) (hp : pc + 1 = pc') (k : Go p e below G T (mkF m pc' Ls (.int (x &&& y) :: st))) : Go p e below G T (mkF m pc Ls (.int y :: .int x :: st)) := by
  subst hp
  exact Go.by (fun t q => XS.iand X.here hx rfl (hb hby hd) rfl q) k
theorem own_ior (X : Stand p l e R s m args below meth c T locs cells slots) (hx : p.tables.exec = Jvm.exec) (hby : c.code = bs) {x y : Int32} (hd : decode bs pc = .ok (.ior, 1))  (pc' : Nat) (hp : pc + 1 = pc') (k : Go p e below G T (mkF m pc' Ls (.int (x ||| y) :: st))) : Go p e below G T (mkF m pc Ls (.int y :: .int x :: st)) := by
  subst hp
  exact Go.by (fun t q => XS.ior X.here hx rfl (hb hby hd) rfl q) k
theorem own_ixor (X : Stand p l e R s m args below meth c T locs cells slots) (hx : p.tables.exec = Jvm.exec) (hby : c.code = bs) {x y : Int32} (hd : decode bs pc = .ok (.ixor, 1))  (pc' : Nat) (hp : pc + 1 = pc') (k : Go p e below G T (mkF m pc' Ls (.int (x ^^^ y) :: st))) : Go p e below G T (mkF m pc Ls (.int y :: .int x :: st)) := by
  subst hp
  exact Go.by (fun t q => XS.ixor X.here hx rfl (hb hby hd) rfl q) k
theorem own_ishl (X : Stand p l e R s m args below meth c T locs cells slots) (hx : p.tables.exec = Jvm.exec) (hby : c.code = bs) {x y : Int32} (hd : decode bs pc = .ok (.ishl, 1))  (pc' : Nat) (hp : pc + 1 = pc') (k : Go p e below G T (mkF m pc' Ls (.int (x <<< (y &&& 31)) :: st))) : Go p e below G T (mkF m pc Ls (.int y :: .int x :: st)) := by
  subst hp
  exact Go.by (fun t q => XS.ishl X.here hx rfl (hb hby hd) rfl q) k
theorem own_ishr (X : Stand p l e R s m args below meth c T locs cells slots) (hx : p.tables.exec = Jvm.exec) (hby : c.code = bs) {x y : Int32} (hd : decode bs pc = .ok (.ishr, 1))  (pc' : Nat) (hp : pc + 1 = pc') (k : Go p e below G T (mkF m pc' Ls (.int (x >>> (y &&& 31)) :: st))) : Go p e below G T (mkF m pc Ls (.int y :: .int x :: st)) := by
  subst hp
  exact Go.by (fun t q => XS.ishr X.here hx rfl (hb hby hd) rfl q) k
theorem own_iushr (X : Stand p l e R s m args below meth c T locs cells slots) (hx : p.tables.exec = Jvm.exec) (hby : c.code = bs) {x y : Int32} (hd : decode bs pc = .ok (.iushr, 1))  (pc' : Nat) (hp : pc + 1 = pc') (k : Go p e below G T (mkF m pc' Ls (.int ((x.toUInt32 >>> (y &&& 31).toUInt32).toInt32) :: st))) : Go p e below G T (mkF m pc Ls (.int y :: .int x :: st)) := by
  subst hp
  exact Go.by (fun t q => XS.iushr X.here hx rfl (hb hby hd) rfl q) k
theorem own_ladd (X : Stand p l e R s m args below meth c T locs cells slots) (hx : p.tables.exec = Jvm.exec) (hby : c.code = bs) {x y : Int64} (hd : decode bs pc = .ok (.ladd, 1))  (pc' : Nat) (hp : pc + 1 = pc') (k : Go p e below G T (mkF m pc' Ls (.long (x + y) :: st))) : Go p e below G T (mkF m pc Ls (.long y :: .long x :: st)) := by
  subst hp
  exact Go.by (fun t q => XS.ladd X.here hx rfl (hb hby hd) rfl q) k
theorem own_lsub (X : Stand p l e R s m args below meth c T locs cells slots) (hx : p.tables.exec = Jvm.exec) (hby : c.code = bs) {x y : Int64} (hd : decode bs pc = .ok (.lsub, 1))  (pc' : Nat) (hp : pc + 1 = pc') (k : Go p e below G T (mkF m pc' Ls (.long (x - y) :: st))) : Go p e below G T (mkF m pc Ls (.long y :: .long x :: st)) := by
  subst hp
  exact Go.by (fun t q => XS.lsub X.here hx rfl (hb hby hd) rfl q) k
theorem own_lmul (X : Stand p l e R s m args below meth c T locs cells slots) (hx : p.tables.exec = Jvm.exec) (hby : c.code = bs) {x y : Int64} (hd : decode bs pc = .ok (.lmul, 1))  (pc' : Nat) (hp : pc + 1 = pc') (k : Go p e below G T (mkF m pc' Ls (.long (x * y) :: st))) : Go p e below G T (mkF m pc Ls (.long y :: .long x :: st)) := by
  subst hp
  exact Go.by (fun t q => XS.lmul X.here hx rfl (hb hby hd) rfl q) k
theorem own_land (X : Stand p l e R s m args below meth c T locs cells slots) (hx : p.tables.exec = Jvm.exec) (hby : c.code = bs) {x y : Int64} (hd : decode bs pc = .ok (.land, 1))  (pc' : Nat) (hp : pc + 1 = pc') (k : Go p e below G T (mkF m pc' Ls (.long (x &&& y) :: st))) : Go p e below G T (mkF m pc Ls (.long y :: .long x :: st)) := by
  subst hp
  exact Go.by (fun t q => XS.land X.here hx rfl (hb hby hd) rfl q) k
theorem own_lor (X : Stand p l e R s m args below meth c T locs cells slots) (hx : p.tables.exec = Jvm.exec) (hby : c.code = bs) {x y : Int64} (hd : decode bs pc = .ok (.lor, 1))  (pc' : Nat) (hp : pc + 1 = pc') (k : Go p e below G T (mkF m pc' Ls (.long (x ||| y) :: st))) : Go p e below G T (mkF m pc Ls (.long y :: .long x :: st)) := by
  subst hp
  exact Go.by (fun t q => XS.lor X.here hx rfl (hb hby hd) rfl q) k
theorem own_lxor (X : Stand p l e R s m args below meth c T locs cells slots) (hx : p.tables.exec = Jvm.exec) (hby : c.code = bs) {x y : Int64} (hd : decode bs pc = .ok (.lxor, 1))  (pc' : Nat) (hp : pc + 1 = pc') (k : Go p e below G T (mkF m pc' Ls (.long (x ^^^ y) :: st))) : Go p e below G T (mkF m pc Ls (.long y :: .long x :: st)) := by
  subst hp
  exact Go.by (fun t q => XS.lxor X.here hx rfl (hb hby hd) rfl q) k
theorem own_lshl (X : Stand p l e R s m args below meth c T locs cells slots) (hx : p.tables.exec = Jvm.exec) (hby : c.code = bs) {x : Int64} {y : Int32} (hd : decode bs pc = .ok (.lshl, 1))  (pc' : Nat) (hp : pc + 1 = pc') (k : Go p e below G T (mkF m pc' Ls (.long (x <<< (y &&& 0x3f).toInt64) :: st))) : Go p e below G T (mkF m pc Ls (.int y :: .long x :: st)) := by
  subst hp
  exact Go.by (fun t q => XS.lshl X.here hx rfl (hb hby hd) rfl q) k
theorem own_lshr (X : Stand p l e R s m args below meth c T locs cells slots) (hx : p.tables.exec = Jvm.exec) (hby : c.code = bs) {x : Int64} {y : Int32} (hd : decode bs pc = .ok (.lshr, 1))  (pc' : Nat) (hp : pc + 1 = pc') (k : Go p e below G T (mkF m pc' Ls (.long (x >>> (y &&& 0x3f).toInt64) :: st))) : Go p e below G T (mkF m pc Ls (.int y :: .long x :: st)) := by
  subst hp
  exact Go.by (fun t q => XS.lshr X.here hx rfl (hb hby hd) rfl q) k
theorem own_lushr (X : Stand p l e R s m args below meth c T locs cells slots) (hx : p.tables.exec = Jvm.exec) (hby : c.code = bs) {x : Int64} {y : Int32} (hd : decode bs pc = .ok (.lushr, 1))  (pc' : Nat) (hp : pc + 1 = pc') (k : Go p e below G T (mkF m pc' Ls (.long ((x.toUInt64 >>> (y &&& 0x3f).toInt64.toUInt64).toInt64) :: st))) : Go p e below G T (mkF m pc Ls (.int y :: .long x :: st)) := by
  subst hp
  exact Go.by (fun t q => XS.lushr X.here hx rfl (hb hby hd) rfl q) k
theorem own_ineg (X : Stand p l e R s m args below meth c T locs cells slots) (hx : p.tables.exec = Jvm.exec) (hby : c.code = bs) {x : Int32} (hd : decode bs pc = .ok (.ineg, 1))  (pc' : Nat) (hp : pc + 1 = pc') (k : Go p e below G T (mkF m pc' Ls (.int (-x) :: st))) : Go p e below G T (mkF m pc Ls (.int x :: st)) := by
  subst hp
  exact Go.by (fun t q => XS.ineg X.here hx rfl (hb hby hd) rfl q) k
theorem own_lneg (X : Stand p l e R s m args below meth c T locs cells slots) (hx : p.tables.exec = Jvm.exec) (hby : c.code = bs) {x : Int64} (hd : decode bs pc = .ok (.lneg, 1))  (pc' : Nat) (hp : pc + 1 = pc') (k : Go p e below G T (mkF m pc' Ls (.long (-x) :: st))) : Go p e below G T (mkF m pc Ls (.long x :: st)) := by
  subst hp
  exact Go.by (fun t q => XS.lneg X.here hx rfl (hb hby hd) rfl q) k
theorem own_i2l (X : Stand p l e R s m args below meth c T locs cells slots) (hx : p.tables.exec = Jvm.exec) (hby : c.code = bs) {x : Int32} (hd : decode bs pc = .ok (.i2l, 1))  (pc' : Nat) (hp : pc + 1 = pc') (k : Go p e below G T (mkF m pc' Ls (.long (x.toInt64) :: st))) : Go p e below G T (mkF m pc Ls (.int x :: st)) := by
  subst hp
  exact Go.by (fun t q => XS.i2l X.here hx rfl (hb hby hd) rfl q) k
theorem own_l2i (X : Stand p l e R s m args below meth c T locs cells slots) (hx : p.tables.exec = Jvm.exec) (hby : c.code = bs) {x : Int64} (hd : decode bs pc = .ok (.l2i, 1))  (pc' : Nat) (hp : pc + 1 = pc') (k : Go p e below G T (mkF m pc' Ls (.int (x.toInt32) :: st))) : Go p e below G T (mkF m pc Ls (.long x :: st)) := by
  subst hp
  exact Go.by (fun t q => XS.l2i X.here hx rfl (hb hby hd) rfl q) k
theorem own_i2b (X : Stand p l e R s m args below meth c T locs cells slots) (hx : p.tables.exec = Jvm.exec) (hby : c.code = bs) {x : Int32} (hd : decode bs pc = .ok (.i2b, 1))  (pc' : Nat) (hp : pc + 1 = pc') (k : Go p e below G T (mkF m pc' Ls (.int (x.toInt8.toInt32) :: st))) : Go p e below G T (mkF m pc Ls (.int x :: st)) := by
  subst hp
  exact Go.by (fun t q => XS.i2b X.here hx rfl (hb hby hd) rfl q) k
theorem own_i2s (X : Stand p l e R s m args below meth c T locs cells slots) (hx : p.tables.exec = Jvm.exec) (hby : c.code = bs) {x : Int32} (hd : decode bs pc = .ok (.i2s, 1))  (pc' : Nat) (hp : pc + 1 = pc') (k : Go p e below G T (mkF m pc' Ls (.int (x.toInt16.toInt32) :: st))) : Go p e below G T (mkF m pc Ls (.int x :: st)) := by
  subst hp
  exact Go.by (fun t q => XS.i2s X.here hx rfl (hb hby hd) rfl q) k
theorem own_i2c (X : Stand p l e R s m args below meth c T locs cells slots) (hx : p.tables.exec = Jvm.exec) (hby : c.code = bs) {x : Int32} (hd : decode bs pc = .ok (.i2c, 1))  (pc' : Nat) (hp : pc + 1 = pc') (k : Go p e below G T (mkF m pc' Ls (.int (x.toUInt32.toUInt16.toUInt32.toInt32) :: st))) : Go p e below G T (mkF m pc Ls (.int x :: st)) := by
  subst hp
  exact Go.by (fun t q => XS.i2c X.here hx rfl (hb hby hd) rfl q) k
theorem own_idiv (X : Stand p l e R s m args below meth c T locs cells slots) (hx : p.tables.exec = Jvm.exec) (hby : c.code = bs) {x y : Int32} (hd : decode bs pc = .ok (.idiv, 1)) (hy : y ≠ 0) (pc' : Nat) (hp : pc + 1 = pc') (k : Go p e below G T (mkF m pc' Ls (.int (x / y) :: st))) : Go p e below G T (mkF m pc Ls (.int y :: .int x :: st)) := by
  subst hp
  exact Go.by (fun t q => XS.idiv X.here hx rfl (hb hby hd) rfl hy q) k
theorem own_ldiv (X : Stand p l e R s m args below meth c T locs cells slots) (hx : p.tables.exec = Jvm.exec) (hby : c.code = bs) {x y : Int64} (hd : decode bs pc = .ok (.ldiv, 1)) (hy : y ≠ 0) (pc' : Nat) (hp : pc + 1 = pc') (k : Go p e below G T (mkF m pc' Ls (.long (x / y) :: st))) : Go p e below G T (mkF m pc Ls (.long y :: .long x :: st)) := by
  subst hp
  exact Go.by (fun t q => XS.ldiv X.here hx rfl (hb hby hd) rfl hy q) k
theorem own_irem (X : Stand p l e R s m args below meth c T locs cells slots) (hx : p.tables.exec = Jvm.exec) (hby : c.code = bs) {x y : Int32} (hd : decode bs pc = .ok (.irem, 1)) (hy : y ≠ 0) (pc' : Nat) (hp : pc + 1 = pc') (k : Go p e below G T (mkF m pc' Ls (.int (x % y) :: st))) : Go p e below G T (mkF m pc Ls (.int y :: .int x :: st)) := by
  subst hp
  exact Go.by (fun t q => iremM X hx rfl (hb hby hd) rfl hy q) k
theorem own_lrem (X : Stand p l e R s m args below meth c T locs cells slots) (hx : p.tables.exec = Jvm.exec) (hby : c.code = bs) {x y : Int64} (hd : decode bs pc = .ok (.lrem, 1)) (hy : y ≠ 0) (pc' : Nat) (hp : pc + 1 = pc') (k : Go p e below G T (mkF m pc' Ls (.long (x % y) :: st))) : Go p e below G T (mkF m pc Ls (.long y :: .long x :: st)) := by
  subst hp
  rw [← lrem_mod] at k
  exact Go.by (fun t q => XS.lrem X.here hx rfl (hb hby hd) rfl hy q) k
theorem own_iinc (X : Stand p l e R s m args below meth c T locs cells slots) (hx : p.tables.exec = Jvm.exec) (hby : c.code = bs) {n : Nat} {cst : Int} {x x' : Int32} (hd : decode bs pc = .ok (.iinc n cst, 3)) (hl : Ls[n]? = some (.val (.int x))) (ex : x + Int32.ofInt cst = x') {l' : Array Slot} (hl' : storeLocals Ls n (.int x') = some l') (pc' : Nat) (hp : pc + 3 = pc') (k : Go p e below G T (mkF m pc' l' st)) : Go p e below G T (mkF m pc Ls st) := by
  subst hp
  subst ex
  exact Go.by (fun t q => XS.iinc X.here hx rfl (hb hby hd) hl hl' q) k
theorem own_dup (X : Stand p l e R s m args below meth c T locs cells slots) (hx : p.tables.exec = Jvm.exec) (hby : c.code = bs) {x : Value} (hd : decode bs pc = .ok (.dup, 1)) (hc : x.category = 1) (pc' : Nat) (hp : pc + 1 = pc') (k : Go p e below G T (mkF m pc' Ls (x :: x :: st))) : Go p e below G T (mkF m pc Ls (x :: st)) := by
  subst hp
  exact Go.by (fun t q => XS.dup X.here hx rfl (hb hby hd) rfl hc q) k
theorem own_pop (X : Stand p l e R s m args below meth c T locs cells slots) (hx : p.tables.exec = Jvm.exec) (hby : c.code = bs) {x : Value} (hd : decode bs pc = .ok (.pop, 1)) (hc : x.category = 1) (pc' : Nat) (hp : pc + 1 = pc') (k : Go p e below G T (mkF m pc' Ls st)) : Go p e below G T (mkF m pc Ls (x :: st)) := by
  subst hp
  exact Go.by (fun t q => XS.pop X.here hx rfl (hb hby hd) rfl hc q) k
theorem own_dupX1 (X : Stand p l e R s m args below meth c T locs cells slots) (hx : p.tables.exec = Jvm.exec) (hby : c.code = bs) {x y : Value} (hd : decode bs pc = .ok (.dup_x1, 1)) (hc : x.category = 1) (hc2 : y.category = 1) (pc' : Nat) (hp : pc + 1 = pc') (k : Go p e below G T (mkF m pc' Ls (x :: y :: x :: st))) : Go p e below G T (mkF m pc Ls (x :: y :: st)) := by
  subst hp
  exact Go.by (fun t q => XS.dupX1 X.here hx rfl (hb hby hd) rfl hc hc2 q) k
theorem own_dup2 (X : Stand p l e R s m args below meth c T locs cells slots) (hx : p.tables.exec = Jvm.exec) (hby : c.code = bs) {x y : Value} (hd : decode bs pc = .ok (.dup2, 1)) (hc : x.category = 1) (hc2 : y.category = 1) (pc' : Nat) (hp : pc + 1 = pc') (k : Go p e below G T (mkF m pc' Ls (x :: y :: x :: y :: st))) : Go p e below G T (mkF m pc Ls (x :: y :: st)) := by
  subst hp
  exact Go.by (fun t q => XT.dup2 X.here hx rfl (hb hby hd) rfl hc hc2 q) k
theorem own_dup2L (X : Stand p l e R s m args below meth c T locs cells slots) (hx : p.tables.exec = Jvm.exec) (hby : c.code = bs) {x : Int64} (hd : decode bs pc = .ok (.dup2, 1))  (pc' : Nat) (hp : pc + 1 = pc') (k : Go p e below G T (mkF m pc' Ls (.long x :: .long x :: st))) : Go p e below G T (mkF m pc Ls (.long x :: st)) := by
  subst hp
  exact Go.by (fun t q => XT.dup2L X.here hx rfl (hb hby hd) rfl q) k
theorem own_goto (X : Stand p l e R s m args below meth c T locs cells slots) (hx : p.tables.exec = Jvm.exec) (hby : c.code = bs) {o : Int} (hd : decode bs pc = .ok (.goto o, 3)) (pc' : Nat) (hp : 0 ≤ (pc : Int) + o ∧ ((pc : Int) + o).toNat = pc') (k : Go p e below G T (mkF m pc' Ls st)) : Go p e below G T (mkF m pc Ls st) :=
  Go.by (fun t q => XS.goto X.here hx rfl rfl (hb hby hd) hp.1 hp.2 q) k
theorem own_top {v v' : Value} (q : v = v') (k : Go p e below G T (mkF m pc Ls (v' :: st))) : Go p e below G T (mkF m pc Ls (v :: st)) := q ▸ k
theorem own_icmp_eq (X : Stand p l e R s m args below meth c T locs cells slots) (hx : p.tables.exec = Jvm.exec) (hby : c.code = bs) {o : Int} {x y : Int32} (hd : decode bs pc = .ok (.if_icmp .eq o, 3)) (pT pF : Nat) (hp : 0 ≤ (pc : Int) + o ∧ ((pc : Int) + o).toNat = pT) (hpF : pc + 3 = pF) (kT : x = y → Go p e below G T (mkF m pT Ls st)) (kF : ¬ x = y → Go p e below G T (mkF m pF Ls st)) : Go p e below G T (mkF m pc Ls (.int y :: .int x :: st)) := by
  subst hpF
  by_cases q0 : x = y
  · have q := q0
    exact Go.by (fun t r => XS.icmpYes X.here hx rfl rfl (hb hby hd) rfl (teq q).1 hp.1 hp.2 r) (kT q0)
  · have q : ¬ x = y := by first | exact q0 | exact Classical.not_not.mp q0
    exact Go.by (fun t r => XS.icmpNo X.here hx rfl (hb hby hd) rfl (feq q).1 r) (kF q)
theorem own_if_eq (X : Stand p l e R s m args below meth c T locs cells slots) (hx : p.tables.exec = Jvm.exec) (hby : c.code = bs) {o : Int} {x : Int32} (hd : decode bs pc = .ok (.ifCond .eq o, 3)) (pT pF : Nat) (hp : 0 ≤ (pc : Int) + o ∧ ((pc : Int) + o).toNat = pT) (hpF : pc + 3 = pF) (kT : x = (0 : Int32) → Go p e below G T (mkF m pT Ls st)) (kF : ¬ x = (0 : Int32) → Go p e below G T (mkF m pF Ls st)) : Go p e below G T (mkF m pc Ls (.int x :: st)) := by
  subst hpF
  by_cases q0 : x = (0 : Int32)
  · have q := q0
    exact Go.by (fun t r => XS.ifYes X.here hx rfl rfl (hb hby hd) rfl ((if0 _ _).trans (teq q).1) hp.1 hp.2 r) (kT q0)
  · have q : ¬ x = (0 : Int32) := by first | exact q0 | exact Classical.not_not.mp q0
    exact Go.by (fun t r => XS.ifNo X.here hx rfl (hb hby hd) rfl ((if0 _ _).trans (feq q).1) r) (kF q)
theorem own_lcmp_eq (X : Stand p l e R s m args below meth c T locs cells slots) (hx : p.tables.exec = Jvm.exec) (hby : c.code = bs) {o : Int} {x y : Int64} (hd : decode bs pc = .ok (.lcmp, 1)) (hd2 : decode bs (pc + 1) = .ok (.ifCond .eq o, 3)) (pT pF : Nat) (hp : 0 ≤ ((pc + 1 : Nat) : Int) + o ∧ (((pc + 1 : Nat) : Int) + o).toNat = pT) (hpF : pc + 4 = pF) (kT : x = y → Go p e below G T (mkF m pT Ls st)) (kF : ¬ x = y → Go p e below G T (mkF m pF Ls st)) : Go p e below G T (mkF m pc Ls (.long y :: .long x :: st)) := by
  refine Go.by (fun t r => XS.lcmp X.here hx rfl (hb hby hd) rfl r) (g' := mkF m (pc + 1) Ls (.int (lcmpW x y) :: st)) ?_
  refine own_if_eq X hx hby hd2 pT pF hp (by omega) (fun q => kT ?_) (fun q => kF ?_)
  · exact (lw_eq x y).mp q
  · exact fun r => q ((lw_eq x y).mpr r)
theorem own_icmp_ne (X : Stand p l e R s m args below meth c T locs cells slots) (hx : p.tables.exec = Jvm.exec) (hby : c.code = bs) {o : Int} {x y : Int32} (hd : decode bs pc = .ok (.if_icmp .ne o, 3)) (pT pF : Nat) (hp : 0 ≤ (pc : Int) + o ∧ ((pc : Int) + o).toNat = pT) (hpF : pc + 3 = pF) (kT : ¬ x = y → Go p e below G T (mkF m pT Ls st)) (kF : x = y → Go p e below G T (mkF m pF Ls st)) : Go p e below G T (mkF m pc Ls (.int y :: .int x :: st)) := by
  subst hpF
  by_cases q0 : ¬ x = y
  · have q := q0
    exact Go.by (fun t r => XS.icmpYes X.here hx rfl rfl (hb hby hd) rfl (feq q).2 hp.1 hp.2 r) (kT q0)
  · have q : x = y := by first | exact q0 | exact Classical.not_not.mp q0
    exact Go.by (fun t r => XS.icmpNo X.here hx rfl (hb hby hd) rfl (teq q).2 r) (kF q)
theorem own_if_ne (X : Stand p l e R s m args below meth c T locs cells slots) (hx : p.tables.exec = Jvm.exec) (hby : c.code = bs) {o : Int} {x : Int32} (hd : decode bs pc = .ok (.ifCond .ne o, 3)) (pT pF : Nat) (hp : 0 ≤ (pc : Int) + o ∧ ((pc : Int) + o).toNat = pT) (hpF : pc + 3 = pF) (kT : ¬ x = (0 : Int32) → Go p e below G T (mkF m pT Ls st)) (kF : x = (0 : Int32) → Go p e below G T (mkF m pF Ls st)) : Go p e below G T (mkF m pc Ls (.int x :: st)) := by
  subst hpF
  by_cases q0 : ¬ x = (0 : Int32)
  · have q := q0
    exact Go.by (fun t r => XS.ifYes X.here hx rfl rfl (hb hby hd) rfl ((if0 _ _).trans (feq q).2) hp.1 hp.2 r) (kT q0)
  · have q : x = (0 : Int32) := by first | exact q0 | exact Classical.not_not.mp q0
    exact Go.by (fun t r => XS.ifNo X.here hx rfl (hb hby hd) rfl ((if0 _ _).trans (teq q).2) r) (kF q)
theorem own_lcmp_ne (X : Stand p l e R s m args below meth c T locs cells slots) (hx : p.tables.exec = Jvm.exec) (hby : c.code = bs) {o : Int} {x y : Int64} (hd : decode bs pc = .ok (.lcmp, 1)) (hd2 : decode bs (pc + 1) = .ok (.ifCond .ne o, 3)) (pT pF : Nat) (hp : 0 ≤ ((pc + 1 : Nat) : Int) + o ∧ (((pc + 1 : Nat) : Int) + o).toNat = pT) (hpF : pc + 4 = pF) (kT : ¬ x = y → Go p e below G T (mkF m pT Ls st)) (kF : x = y → Go p e below G T (mkF m pF Ls st)) : Go p e below G T (mkF m pc Ls (.long y :: .long x :: st)) := by
  refine Go.by (fun t r => XS.lcmp X.here hx rfl (hb hby hd) rfl r) (g' := mkF m (pc + 1) Ls (.int (lcmpW x y) :: st)) ?_
  refine own_if_ne X hx hby hd2 pT pF hp (by omega) (fun q => kT ?_) (fun q => kF ?_)
  · exact fun r => q ((lw_eq x y).mpr r)
  · exact (lw_eq x y).mp q
theorem own_icmp_lt (X : Stand p l e R s m args below meth c T locs cells slots) (hx : p.tables.exec = Jvm.exec) (hby : c.code = bs) {o : Int} {x y : Int32} (hd : decode bs pc = .ok (.if_icmp .lt o, 3)) (pT pF : Nat) (hp : 0 ≤ (pc : Int) + o ∧ ((pc : Int) + o).toNat = pT) (hpF : pc + 3 = pF) (kT : x < y → Go p e below G T (mkF m pT Ls st)) (kF : ¬ x < y → Go p e below G T (mkF m pF Ls st)) : Go p e below G T (mkF m pc Ls (.int y :: .int x :: st)) := by
  subst hpF
  by_cases q0 : x < y
  · have q := q0
    exact Go.by (fun t r => XS.icmpYes X.here hx rfl rfl (hb hby hd) rfl (tlt q).1 hp.1 hp.2 r) (kT q0)
  · have q : ¬ x < y := by first | exact q0 | exact Classical.not_not.mp q0
    exact Go.by (fun t r => XS.icmpNo X.here hx rfl (hb hby hd) rfl (flt q).1 r) (kF q)
theorem own_if_lt (X : Stand p l e R s m args below meth c T locs cells slots) (hx : p.tables.exec = Jvm.exec) (hby : c.code = bs) {o : Int} {x : Int32} (hd : decode bs pc = .ok (.ifCond .lt o, 3)) (pT pF : Nat) (hp : 0 ≤ (pc : Int) + o ∧ ((pc : Int) + o).toNat = pT) (hpF : pc + 3 = pF) (kT : x < (0 : Int32) → Go p e below G T (mkF m pT Ls st)) (kF : ¬ x < (0 : Int32) → Go p e below G T (mkF m pF Ls st)) : Go p e below G T (mkF m pc Ls (.int x :: st)) := by
  subst hpF
  by_cases q0 : x < (0 : Int32)
  · have q := q0
    exact Go.by (fun t r => XS.ifYes X.here hx rfl rfl (hb hby hd) rfl ((if0 _ _).trans (tlt q).1) hp.1 hp.2 r) (kT q0)
  · have q : ¬ x < (0 : Int32) := by first | exact q0 | exact Classical.not_not.mp q0
    exact Go.by (fun t r => XS.ifNo X.here hx rfl (hb hby hd) rfl ((if0 _ _).trans (flt q).1) r) (kF q)
theorem own_lcmp_lt (X : Stand p l e R s m args below meth c T locs cells slots) (hx : p.tables.exec = Jvm.exec) (hby : c.code = bs) {o : Int} {x y : Int64} (hd : decode bs pc = .ok (.lcmp, 1)) (hd2 : decode bs (pc + 1) = .ok (.ifCond .lt o, 3)) (pT pF : Nat) (hp : 0 ≤ ((pc + 1 : Nat) : Int) + o ∧ (((pc + 1 : Nat) : Int) + o).toNat = pT) (hpF : pc + 4 = pF) (kT : x < y → Go p e below G T (mkF m pT Ls st)) (kF : ¬ x < y → Go p e below G T (mkF m pF Ls st)) : Go p e below G T (mkF m pc Ls (.long y :: .long x :: st)) := by
  refine Go.by (fun t r => XS.lcmp X.here hx rfl (hb hby hd) rfl r) (g' := mkF m (pc + 1) Ls (.int (lcmpW x y) :: st)) ?_
  refine own_if_lt X hx hby hd2 pT pF hp (by omega) (fun q => kT ?_) (fun q => kF ?_)
  · exact (lw_lt x y).mp q
  · exact fun r => q ((lw_lt x y).mpr r)
theorem own_icmp_ge (X : Stand p l e R s m args below meth c T locs cells slots) (hx : p.tables.exec = Jvm.exec) (hby : c.code = bs) {o : Int} {x y : Int32} (hd : decode bs pc = .ok (.if_icmp .ge o, 3)) (pT pF : Nat) (hp : 0 ≤ (pc : Int) + o ∧ ((pc : Int) + o).toNat = pT) (hpF : pc + 3 = pF) (kT : ¬ x < y → Go p e below G T (mkF m pT Ls st)) (kF : x < y → Go p e below G T (mkF m pF Ls st)) : Go p e below G T (mkF m pc Ls (.int y :: .int x :: st)) := by
  subst hpF
  by_cases q0 : ¬ x < y
  · have q := q0
    exact Go.by (fun t r => XS.icmpYes X.here hx rfl rfl (hb hby hd) rfl (flt q).2.1 hp.1 hp.2 r) (kT q0)
  · have q : x < y := by first | exact q0 | exact Classical.not_not.mp q0
    exact Go.by (fun t r => XS.icmpNo X.here hx rfl (hb hby hd) rfl (tlt q).2.1 r) (kF q)
theorem own_if_ge (X : Stand p l e R s m args below meth c T locs cells slots) (hx : p.tables.exec = Jvm.exec) (hby : c.code = bs) {o : Int} {x : Int32} (hd : decode bs pc = .ok (.ifCond .ge o, 3)) (pT pF : Nat) (hp : 0 ≤ (pc : Int) + o ∧ ((pc : Int) + o).toNat = pT) (hpF : pc + 3 = pF) (kT : ¬ x < (0 : Int32) → Go p e below G T (mkF m pT Ls st)) (kF : x < (0 : Int32) → Go p e below G T (mkF m pF Ls st)) : Go p e below G T (mkF m pc Ls (.int x :: st)) := by
  subst hpF
  by_cases q0 : ¬ x < (0 : Int32)
  · have q := q0
    exact Go.by (fun t r => XS.ifYes X.here hx rfl rfl (hb hby hd) rfl ((if0 _ _).trans (flt q).2.1) hp.1 hp.2 r) (kT q0)
  · have q : x < (0 : Int32) := by first | exact q0 | exact Classical.not_not.mp q0
    exact Go.by (fun t r => XS.ifNo X.here hx rfl (hb hby hd) rfl ((if0 _ _).trans (tlt q).2.1) r) (kF q)
theorem own_lcmp_ge (X : Stand p l e R s m args below meth c T locs cells slots) (hx : p.tables.exec = Jvm.exec) (hby : c.code = bs) {o : Int} {x y : Int64} (hd : decode bs pc = .ok (.lcmp, 1)) (hd2 : decode bs (pc + 1) = .ok (.ifCond .ge o, 3)) (pT pF : Nat) (hp : 0 ≤ ((pc + 1 : Nat) : Int) + o ∧ (((pc + 1 : Nat) : Int) + o).toNat = pT) (hpF : pc + 4 = pF) (kT : ¬ x < y → Go p e below G T (mkF m pT Ls st)) (kF : x < y → Go p e below G T (mkF m pF Ls st)) : Go p e below G T (mkF m pc Ls (.long y :: .long x :: st)) := by
  refine Go.by (fun t r => XS.lcmp X.here hx rfl (hb hby hd) rfl r) (g' := mkF m (pc + 1) Ls (.int (lcmpW x y) :: st)) ?_
  refine own_if_ge X hx hby hd2 pT pF hp (by omega) (fun q => kT ?_) (fun q => kF ?_)
  · exact fun r => q ((lw_lt x y).mpr r)
  · exact (lw_lt x y).mp q
theorem own_icmp_gt (X : Stand p l e R s m args below meth c T locs cells slots) (hx : p.tables.exec = Jvm.exec) (hby : c.code = bs) {o : Int} {x y : Int32} (hd : decode bs pc = .ok (.if_icmp .gt o, 3)) (pT pF : Nat) (hp : 0 ≤ (pc : Int) + o ∧ ((pc : Int) + o).toNat = pT) (hpF : pc + 3 = pF) (kT : y < x → Go p e below G T (mkF m pT Ls st)) (kF : ¬ y < x → Go p e below G T (mkF m pF Ls st)) : Go p e below G T (mkF m pc Ls (.int y :: .int x :: st)) := by
  subst hpF
  by_cases q0 : y < x
  · have q := q0
    exact Go.by (fun t r => XS.icmpYes X.here hx rfl rfl (hb hby hd) rfl (tlt q).2.2.1 hp.1 hp.2 r) (kT q0)
  · have q : ¬ y < x := by first | exact q0 | exact Classical.not_not.mp q0
    exact Go.by (fun t r => XS.icmpNo X.here hx rfl (hb hby hd) rfl (flt q).2.2.1 r) (kF q)
theorem own_if_gt (X : Stand p l e R s m args below meth c T locs cells slots) (hx : p.tables.exec = Jvm.exec) (hby : c.code = bs) {o : Int} {x : Int32} (hd : decode bs pc = .ok (.ifCond .gt o, 3)) (pT pF : Nat) (hp : 0 ≤ (pc : Int) + o ∧ ((pc : Int) + o).toNat = pT) (hpF : pc + 3 = pF) (kT : (0 : Int32) < x → Go p e below G T (mkF m pT Ls st)) (kF : ¬ (0 : Int32) < x → Go p e below G T (mkF m pF Ls st)) : Go p e below G T (mkF m pc Ls (.int x :: st)) := by
  subst hpF
  by_cases q0 : (0 : Int32) < x
  · have q := q0
    exact Go.by (fun t r => XS.ifYes X.here hx rfl rfl (hb hby hd) rfl ((if0 _ _).trans (tlt q).2.2.1) hp.1 hp.2 r) (kT q0)
  · have q : ¬ (0 : Int32) < x := by first | exact q0 | exact Classical.not_not.mp q0
    exact Go.by (fun t r => XS.ifNo X.here hx rfl (hb hby hd) rfl ((if0 _ _).trans (flt q).2.2.1) r) (kF q)
theorem own_lcmp_gt (X : Stand p l e R s m args below meth c T locs cells slots) (hx : p.tables.exec = Jvm.exec) (hby : c.code = bs) {o : Int} {x y : Int64} (hd : decode bs pc = .ok (.lcmp, 1)) (hd2 : decode bs (pc + 1) = .ok (.ifCond .gt o, 3)) (pT pF : Nat) (hp : 0 ≤ ((pc + 1 : Nat) : Int) + o ∧ (((pc + 1 : Nat) : Int) + o).toNat = pT) (hpF : pc + 4 = pF) (kT : y < x → Go p e below G T (mkF m pT Ls st)) (kF : ¬ y < x → Go p e below G T (mkF m pF Ls st)) : Go p e below G T (mkF m pc Ls (.long y :: .long x :: st)) := by
  refine Go.by (fun t r => XS.lcmp X.here hx rfl (hb hby hd) rfl r) (g' := mkF m (pc + 1) Ls (.int (lcmpW x y) :: st)) ?_
  refine own_if_gt X hx hby hd2 pT pF hp (by omega) (fun q => kT ?_) (fun q => kF ?_)
  · exact (lw_gt x y).mp q
  · exact fun r => q ((lw_gt x y).mpr r)
theorem own_icmp_le (X : Stand p l e R s m args below meth c T locs cells slots) (hx : p.tables.exec = Jvm.exec) (hby : c.code = bs) {o : Int} {x y : Int32} (hd : decode bs pc = .ok (.if_icmp .le o, 3)) (pT pF : Nat) (hp : 0 ≤ (pc : Int) + o ∧ ((pc : Int) + o).toNat = pT) (hpF : pc + 3 = pF) (kT : ¬ y < x → Go p e below G T (mkF m pT Ls st)) (kF : y < x → Go p e below G T (mkF m pF Ls st)) : Go p e below G T (mkF m pc Ls (.int y :: .int x :: st)) := by
  subst hpF
  by_cases q0 : ¬ y < x
  · have q := q0
    exact Go.by (fun t r => XS.icmpYes X.here hx rfl rfl (hb hby hd) rfl (flt q).2.2.2 hp.1 hp.2 r) (kT q0)
  · have q : y < x := by first | exact q0 | exact Classical.not_not.mp q0
    exact Go.by (fun t r => XS.icmpNo X.here hx rfl (hb hby hd) rfl (tlt q).2.2.2 r) (kF q)
theorem own_if_le (X : Stand p l e R s m args below meth c T locs cells slots) (hx : p.tables.exec = Jvm.exec) (hby : c.code = bs) {o : Int} {x : Int32} (hd : decode bs pc = .ok (.ifCond .le o, 3)) (pT pF : Nat) (hp : 0 ≤ (pc : Int) + o ∧ ((pc : Int) + o).toNat = pT) (hpF : pc + 3 = pF) (kT : ¬ (0 : Int32) < x → Go p e below G T (mkF m pT Ls st)) (kF : (0 : Int32) < x → Go p e below G T (mkF m pF Ls st)) : Go p e below G T (mkF m pc Ls (.int x :: st)) := by
  subst hpF
  by_cases q0 : ¬ (0 : Int32) < x
  · have q := q0
    exact Go.by (fun t r => XS.ifYes X.here hx rfl rfl (hb hby hd) rfl ((if0 _ _).trans (flt q).2.2.2) hp.1 hp.2 r) (kT q0)
  · have q : (0 : Int32) < x := by first | exact q0 | exact Classical.not_not.mp q0
    exact Go.by (fun t r => XS.ifNo X.here hx rfl (hb hby hd) rfl ((if0 _ _).trans (tlt q).2.2.2) r) (kF q)
theorem own_lcmp_le (X : Stand p l e R s m args below meth c T locs cells slots) (hx : p.tables.exec = Jvm.exec) (hby : c.code = bs) {o : Int} {x y : Int64} (hd : decode bs pc = .ok (.lcmp, 1)) (hd2 : decode bs (pc + 1) = .ok (.ifCond .le o, 3)) (pT pF : Nat) (hp : 0 ≤ ((pc + 1 : Nat) : Int) + o ∧ (((pc + 1 : Nat) : Int) + o).toNat = pT) (hpF : pc + 4 = pF) (kT : ¬ y < x → Go p e below G T (mkF m pT Ls st)) (kF : y < x → Go p e below G T (mkF m pF Ls st)) : Go p e below G T (mkF m pc Ls (.long y :: .long x :: st)) := by
  refine Go.by (fun t r => XS.lcmp X.here hx rfl (hb hby hd) rfl r) (g' := mkF m (pc + 1) Ls (.int (lcmpW x y) :: st)) ?_
  refine own_if_le X hx hby hd2 pT pF hp (by omega) (fun q => kT ?_) (fun q => kF ?_)
  · exact fun r => q ((lw_gt x y).mpr r)
  · exact (lw_gt x y).mp q
theorem own_ifnullY (X : Stand p l e R s m args below meth c T locs cells slots) (hx : p.tables.exec = Jvm.exec) (hby : c.code = bs) {o : Int}  (hd : decode bs pc = .ok (.ifnull o, 3)) (pc' : Nat) (hp : 0 ≤ (pc : Int) + o ∧ ((pc : Int) + o).toNat = pc') (k : Go p e below G T (mkF m pc' Ls st)) : Go p e below G T (mkF m pc Ls (.null :: st)) :=
  Go.by (fun t q => XS.ifnullYes X.here hx rfl rfl (hb hby hd) rfl hp.1 hp.2 q) k
theorem own_ifnullN (X : Stand p l e R s m args below meth c T locs cells slots) (hx : p.tables.exec = Jvm.exec) (hby : c.code = bs) {o : Int} {b : Addr} (hd : decode bs pc = .ok (.ifnull o, 3)) (pc' : Nat) (hp : pc + 3 = pc') (k : Go p e below G T (mkF m pc' Ls st)) : Go p e below G T (mkF m pc Ls (.ref b :: st)) := by
  subst hp
  exact Go.by (fun t q => XS.ifnullNo X.here hx rfl (hb hby hd) rfl q) k
theorem own_ifnonnullY (X : Stand p l e R s m args below meth c T locs cells slots) (hx : p.tables.exec = Jvm.exec) (hby : c.code = bs) {o : Int} {b : Addr} (hd : decode bs pc = .ok (.ifnonnull o, 3)) (pc' : Nat) (hp : 0 ≤ (pc : Int) + o ∧ ((pc : Int) + o).toNat = pc') (k : Go p e below G T (mkF m pc' Ls st)) : Go p e below G T (mkF m pc Ls (.ref b :: st)) :=
  Go.by (fun t q => XS.ifnonnullYes X.here hx rfl rfl (hb hby hd) rfl hp.1 hp.2 q) k
theorem own_ifnonnullN (X : Stand p l e R s m args below meth c T locs cells slots) (hx : p.tables.exec = Jvm.exec) (hby : c.code = bs) {o : Int}  (hd : decode bs pc = .ok (.ifnonnull o, 3)) (pc' : Nat) (hp : pc + 3 = pc') (k : Go p e below G T (mkF m pc' Ls st)) : Go p e below G T (mkF m pc Ls (.null :: st)) := by
  subst hp
  exact Go.by (fun t q => XS.ifnonnullNo X.here hx rfl (hb hby hd) rfl q) k
theorem own_ldc (X : Stand p l e R s m args below meth c T locs cells slots) (hx : p.tables.exec = Jvm.exec) (hby : c.code = bs) (hZ : Z.Warmed39 s.vm) {own : String} {idx : Nat} (v : Int32) (hown : s.vm.findClass own = some m.cls) (w : (Jvm.Cond.constant own idx v).before a0 Z = true) (hd : decode bs pc = .ok (.ldc idx, 2)) (pc' : Nat) (hp : pc + 2 = pc') (k : Go p e below G T (mkF m pc' Ls (.int v :: st))) : Go p e below G T (mkF m pc Ls st) := by
  subst hp
  exact Go.by (fun t q => X.ldcInt hx hown (mvT hZ w) (g := mkF m pc Ls st) rfl (hb hby hd) t q) k
theorem own_ldc2 (X : Stand p l e R s m args below meth c T locs cells slots) (hx : p.tables.exec = Jvm.exec) (hby : c.code = bs) (hZ : Z.Warmed39 s.vm) {own : String} {idx : Nat} (v : Int64) (hown : s.vm.findClass own = some m.cls) (w : (Jvm.Cond.constantLong own idx v).before a0 Z = true) (hd : decode bs pc = .ok (.ldc2_w idx, 3)) (pc' : Nat) (hp : pc + 3 = pc') (k : Go p e below G T (mkF m pc' Ls (.long v :: st))) : Go p e below G T (mkF m pc Ls st) := by
  subst hp
  exact Go.by (fun t q => X.ldc2Long hx hown (mvT hZ w) (g := mkF m pc Ls st) rfl (hb hby hd) t q) k
theorem own_callS (X : Stand p l e R s m args below meth c T locs cells slots) (hx : p.tables.exec = Jvm.exec) (hby : c.code = bs) (hZ : Z.Warmed39 s.vm) {own : String} {idx : Nat} {y : MethodName} {yb : ByteArray} {yml : Nat} {yrt : Option FieldType} {rm : Room} {as : Array Value} {Qc : Option Value → Heap → List Loc → Prop} (argsL : List Value) (has : argsL.toArray = as) (hown : s.vm.findClass own = some m.cls) (w1 : (Jvm.Cond.methodLink own idx y).before a0 Z = true) (w2 : (Jvm.Cond.static y).before a0 Z = true) (w3 : (Jvm.Cond.initialized y.cls).before a0 Z = true) (w4 : (Jvm.Cond.code y yb yml yrt).before a0 Z = true) (hy : y.cls ≠ "java/lang/invoke/MethodHandle" ∧ y.cls ≠ "java/lang/invoke/VarHandle") (hd : decode bs pc = .ok (.invokestatic idx, 3)) (hM : Met1 l Z y yb yml yrt rm as h Qc) (eT : T.heap = h) {ps : List FieldType} {pr : Option FieldType} (hpd : parseMethodDescriptor y.desc = some ⟨ps, pr⟩) (hlen : argsL.length = ps.length) (hml : Ls.size = c.maxLocals) (hf : rm.frames + 1 ≤ R.frames) (W : Nat) (hW : (st.map fun v => v.category).sum = W) (hl : W + (yml + 11) + rm.locals ≤ R.locals) (hcl : cells + rm.cells ≤ R.cells) (hsl : slots + rm.slots ≤ R.slots) (pc' : Nat) (hp : pc + 3 = pc') (k : ∀ (T' : State) (L : List Loc) (v : Option Value), Stand p l e R s m args below meth c T' (locs ++ L) (cells + rm.cells) (slots + rm.slots) → Qc v T'.heap L → Go p e below G T' (mkF m pc' Ls (v.toList ++ st))) : Go p e below G T (mkF m pc Ls (argsL.reverse ++ st)) := by
  subst has
  subst hp
  obtain ⟨v, vm₁, ⟨T1, L1, k1, n1⟩, -, X1, ⟨Lc, hQ, l1, y1, z1⟩, st1⟩ := Jvm.LawKit.callS X hx (y := y) hown (mvT hZ w1) (mvT hZ w2) (mvT hZ w3) (mvT hZ w4) hy (backOf (W := W) (hM []) hZ w4 w3 hf hl) (g := mkF m pc Ls (argsL.reverse ++ st)) rfl hml (argsL := argsL) (rest := st) (lenOf hpd hlen) rfl (by show 2 * 0 + _ ≤ _; omega) (hb hby hd) (fun _ _ => ⟨rfl, eT, hcl, hsl⟩)
  dsimp only [Pt.U, Pt.locs, Pt.cells, Pt.slots] at X1 l1 y1 z1 st1 hQ
  subst l1 y1 z1
  exact Go.by (fun t q => st1 t q) (k T1 Lc v X1 hQ)
theorem own_callC (X : Stand p l e R s m args below meth c T locs cells slots) (hx : p.tables.exec = Jvm.exec) (hby : c.code = bs) (hZ : Z.Warmed39 s.vm) {own : String} {idx : Nat} {y : MethodName} {yb : ByteArray} {yml : Nat} {rm : Room} {as : Array Value} {Qc : Option Value → Heap → List Loc → Prop} {a : Addr} (argsL : List Value) (has : (.ref a :: argsL).toArray = as) (hy1 : y.name = "<init>") (hown : s.vm.findClass own = some m.cls) (w1 : (Jvm.Cond.methodLink own idx y).before a0 Z = true) (w2 : (Jvm.Cond.instanceMethod y).before a0 Z = true) (w3 : (Jvm.Cond.initialized y.cls).before a0 Z = true) (w4 : (Jvm.Cond.code y yb yml none).before a0 Z = true) (hy : y.cls ≠ "java/lang/invoke/MethodHandle" ∧ y.cls ≠ "java/lang/invoke/VarHandle") (hd : decode bs pc = .ok (.invokespecial idx, 3)) (hM : Met1 l Z y yb yml none rm as h Qc) (eT : T.heap = h) {ps : List FieldType} {pr : Option FieldType} (hpd : parseMethodDescriptor y.desc = some ⟨ps, pr⟩) (hlen : argsL.length = ps.length) (hml : Ls.size = c.maxLocals) (hf : rm.frames + 1 ≤ R.frames) (W : Nat) (hW : (st.map fun v => v.category).sum = W) (hl : W + (yml + 11) + rm.locals ≤ R.locals) (hcl : cells + rm.cells ≤ R.cells) (hsl : slots + rm.slots ≤ R.slots) (pc' : Nat) (hp : pc + 3 = pc') (k : ∀ (T' : State) (L : List Loc) (v : Option Value), Stand p l e R s m args below meth c T' (locs ++ L) (cells + rm.cells) (slots + rm.slots) → Qc v T'.heap L → Go p e below G T' (mkF m pc' Ls (v.toList ++ st))) : Go p e below G T (mkF m pc Ls (argsL.reverse ++ .ref a :: st)) := by
  subst has
  subst hp
  obtain ⟨v, vm₁, ⟨T1, L1, k1, n1⟩, -, X1, ⟨Lc, hQ, l1, y1, z1⟩, st1⟩ := X.specialBack hx (y := y) hy1 hown (mvT hZ w1) (mvT hZ w2) (mvT hZ w4) hy (backOf (W := W) (hM []) hZ w4 w3 hf hl) (g := mkF m pc Ls (argsL.reverse ++ .ref a :: st)) rfl hml (Steps.refl _) (a := a) (argsL := argsL) (rest := st) (lenOf hpd hlen) rfl (by show 2 * 0 + _ ≤ _; omega) (hb hby hd) (fun _ _ => ⟨rfl, eT, hcl, hsl⟩)
  dsimp only [Pt.U, Pt.locs, Pt.cells, Pt.slots] at X1 l1 y1 z1 st1 hQ
  subst l1 y1 z1
  exact Go.by (fun t q => st1.trans q) (k T1 Lc v X1 hQ)
theorem own_callV (X : Stand p l e R s m args below meth c T locs cells slots) (hx : p.tables.exec = Jvm.exec) (hby : c.code = bs) (hZ : Z.Warmed39 s.vm) {own : String} {idx : Nat} {y : MethodName} {yb : ByteArray} {yml : Nat} {yrt : Option FieldType} {rm : Room} {as : Array Value} {Qc : Option Value → Heap → List Loc → Prop} {a : Addr} {C : String} (argsL : List Value) (has : (.ref a :: argsL).toArray = as) (hown : s.vm.findClass own = some m.cls) (w1 : (Jvm.Cond.methodLink own idx y).before a0 Z = true) (w5 : (Jvm.Cond.declares y).before a0 Z = true) (w6 : (Jvm.Cond.selects C y y).before a0 Z = true) (w2 : (Jvm.Cond.instanceMethod y).before a0 Z = true) (w3 : (Jvm.Cond.initialized y.cls).before a0 Z = true) (w4 : (Jvm.Cond.code y yb yml yrt).before a0 Z = true) (E : Exa Z h a C) (hy : y.cls ≠ "java/lang/invoke/MethodHandle" ∧ y.cls ≠ "java/lang/invoke/VarHandle") (hd : decode bs pc = .ok (.invokevirtual idx, 3)) (hM : Met1 l Z y yb yml yrt rm as h Qc) (eT : T.heap = h) {ps : List FieldType} {pr : Option FieldType} (hpd : parseMethodDescriptor y.desc = some ⟨ps, pr⟩) (hlen : argsL.length = ps.length) (hml : Ls.size = c.maxLocals) (hf : rm.frames + 1 ≤ R.frames) (W : Nat) (hW : (st.map fun v => v.category).sum = W) (hl : W + (yml + 11) + rm.locals ≤ R.locals) (hcl : cells + rm.cells ≤ R.cells) (hsl : slots + rm.slots ≤ R.slots) (pc' : Nat) (hp : pc + 3 = pc') (k : ∀ (T' : State) (L : List Loc) (v : Option Value), Stand p l e R s m args below meth c T' (locs ++ L) (cells + rm.cells) (slots + rm.slots) → Qc v T'.heap L → Go p e below G T' (mkF m pc' Ls (v.toList ++ st))) : Go p e below G T (mkF m pc Ls (argsL.reverse ++ .ref a :: st)) := by
  subst has
  obtain ⟨cq, kq, qa, qb, qc⟩ := isOf hZ eT E
  subst hp
  obtain ⟨v, vm₁, ⟨T1, L1, k1, n1⟩, -, X1, ⟨Lc, hQ, l1, y1, z1⟩, st1⟩ := X.virtualBack hx (y := y) (z := y) hown (mvT hZ w1) (mvT hZ w5) (notFace_of_selects (args := #[]) (mvT hZ w6)) (mvT hZ w6) (mvT hZ w2) hy (backOf (W := W) (hM []) hZ w4 w3 hf hl) qa qc (g := mkF m pc Ls (argsL.reverse ++ .ref a :: st)) rfl hml (Steps.refl _) (argsL := argsL) (rest := st) (lenOf hpd hlen) rfl (by show 2 * 0 + _ ≤ _; omega) (hb hby hd) (fun _ _ => ⟨rfl, eT, hcl, hsl⟩)
  dsimp only [Pt.U, Pt.locs, Pt.cells, Pt.slots] at X1 l1 y1 z1 st1 hQ
  subst l1 y1 z1
  exact Go.by (fun t q => st1.trans q) (k T1 Lc v X1 hQ)
theorem own_getF (X : Stand p l e R s m args below meth c T locs cells slots) (hx : p.tables.exec = Jvm.exec) (hby : c.code = bs) (hZ : Z.Warmed39 s.vm) {own R0 O n d host : String} {idx : Nat} {a : Addr} {v : Value} (hown : s.vm.findClass own = some m.cls) (w : (Jvm.Cond.fieldLink own idx R0 n d).before a0 Z = true ∨ (Jvm.Cond.fieldLinkNest own idx R0 n d host).before a0 Z = true) (via : Via Z R0 O n d) (eT : T.heap = h) (F : Fld Z h a O n d v) (hd : decode bs pc = .ok (.getfield idx, 3)) (pc' : Nat) (hp : pc + 3 = pc') (k : ∀ T', Stand p l e R s m args below meth c T' locs cells slots → T'.heap = h → Go p e below G T' (mkF m pc' Ls (v :: st))) : Go p e below G T (mkF m pc Ls (.ref a :: st)) := by
  subst hp
  obtain ⟨T1, X1, e1, st1⟩ := getF X hx hZ hown w via eT F (g := mkF m pc Ls (.ref a :: st)) rfl rfl (hb hby hd)
  exact Go.by (fun t q => st1 t q) (k T1 X1 e1)
theorem own_putF (X : Stand p l e R s m args below meth c T locs cells slots) (hx : p.tables.exec = Jvm.exec) (hby : c.code = bs) (hZ : Z.Warmed39 s.vm) {own R0 O n d host C : String} {idx kk : Nat} {a : Addr} {v old : Value} {ty : FieldType} (hown : s.vm.findClass own = some m.cls) (w : (Jvm.Cond.fieldLink own idx R0 n d).before a0 Z = true ∨ (Jvm.Cond.fieldLinkNest own idx R0 n d host).before a0 Z = true) (via : Via Z R0 O n d) (eT : T.heap = h) (F : Fld Z h a O n d old) (E : Exa Z h a C) (lw : (Jvm.Cond.lays C O n d).before a0 Z = true ∨ ((Jvm.Cond.laysFinal C O n d).before a0 Z = true ∧ own = O ∧ meth.name = "<init>")) (wi : (Jvm.Cond.instantiable C kk).before a0 Z = true) (hty : parseFieldDescriptor d = some ty) (hn : narrow ty v = v) (hf : fits ty v = true) (hd : decode bs pc = .ok (.putfield idx, 3)) (pc' : Nat) (hp : pc + 3 = pc') (k : ∀ T' h', Stand p l e R s m args below meth c T' (locs ++ [⟨a, Jvm.RoadKit.slotOf Z O n d⟩]) cells slots → T'.heap = h' → Wr h h' a (Jvm.RoadKit.slotOf Z O n d) v → Go p e below G T' (mkF m pc' Ls st)) : Go p e below G T (mkF m pc Ls (v :: .ref a :: st)) := by
  subst hp
  obtain ⟨T1, h1, X1, e1, W1, st1⟩ := putF X hx hZ hown w via eT F E lw wi hty hn hf (g := mkF m pc Ls (v :: .ref a :: st)) rfl rfl (hb hby hd)
  exact Go.by (fun t q => st1 t q) (k T1 h1 X1 e1 W1)
theorem own_new (X : Stand p l e R s m args below meth c T locs cells slots) (hx : p.tables.exec = Jvm.exec) (hby : c.code = bs) (hZ : Z.Warmed39 s.vm) {own C : String} {idx n : Nat} (hown : s.vm.findClass own = some m.cls) (w : (Jvm.Cond.classLink own idx C).before a0 Z = true) (wi : (Jvm.Cond.instantiable C n).before a0 Z = true) (wz : (Jvm.Cond.initialized C).before a0 Z = true) (eT : T.heap = h) (hd : decode bs pc = .ok (.new idx, 3)) (hcl : cells + 1 ≤ R.cells) (hsl : slots + n ≤ R.slots) (pc' : Nat) (hp : pc + 3 = pc') (k : ∀ T' h' (b : Addr), b = h.size → Stand p l e R s m args below meth c T' locs (cells + 1) (slots + n) → T'.heap = h' → Ext h h' → Exa Z h' b C → (∀ {O nm d : String} {ty : FieldType}, Laid Z a0 C O nm d → parseFieldDescriptor d = some ty → Fld Z h' b O nm d (defaultValue ty)) → Go p e below G T' (mkF m pc' Ls (.ref b :: st))) : Go p e below G T (mkF m pc Ls st) := by
  subst hp
  obtain ⟨T1, h1, X1, e1, E1, A1, D1, -, st1⟩ := newO X hx hZ hown w wi wz eT (g := mkF m pc Ls st) rfl (hb hby hd) hcl hsl
  exact Go.by (fun t q => st1 t q) (k T1 h1 _ rfl X1 e1 E1 A1 D1)
theorem own_initO (X : Stand p l e R s m args below meth c T locs cells slots) (hx : p.tables.exec = Jvm.exec) (hby : c.code = bs) (hZ : Z.Warmed39 s.vm) {own : String} {idx : Nat} {a : Addr} (hown : s.vm.findClass own = some m.cls) (w1 : (Jvm.Cond.methodLink own idx Lib.objectInit).before a0 Z = true) (w2 : (Jvm.Cond.instanceMethod Lib.objectInit).before a0 Z = true) (w3 : (Jvm.Cond.code Lib.objectInit ⟨#[0xb1]⟩ 1 none).before a0 Z = true) (eT : T.heap = h) (hml : Ls.size = c.maxLocals) (hd : decode bs pc = .ok (.invokespecial idx, 3)) (hf : 1 ≤ R.frames) (W : Nat) (hW : (st.map fun v => v.category).sum = W) (hl : W + 12 ≤ R.locals) (pc' : Nat) (hp : pc + 3 = pc') (k : ∀ T', Stand p l e R s m args below meth c T' locs cells slots → T'.heap = h → Go p e below G T' (mkF m pc' Ls st)) : Go p e below G T (mkF m pc Ls (.ref a :: st)) := by
  subst hp
  obtain ⟨T1, X1, e1, st1⟩ := initO X hx hZ hown w1 w2 w3 eT (g := mkF m pc Ls (.ref a :: st)) rfl hml rfl (hb hby hd) hf (W := W) (by show 2 * 0 + _ ≤ _; omega) hl
  exact Go.by (fun t q => st1 t q) (k T1 X1 e1)
theorem own_putFN (X : Stand p l e R s m args below meth c T locs cells slots) (hx : p.tables.exec = Jvm.exec) (hby : c.code = bs) (hZ : Z.Warmed39 s.vm) {own R0 O n d C : String} {idx kk : Nat} {a : Addr} {v v' old : Value} {ty : FieldType} (hown : s.vm.findClass own = some m.cls) (w : (Jvm.Cond.fieldLink own idx R0 n d).before a0 Z = true) (via : Via Z R0 O n d) (eT : T.heap = h) (F : Fld Z h a O n d old) (E : Exa Z h a C) (lw : (Jvm.Cond.lays C O n d).before a0 Z = true ∨ ((Jvm.Cond.laysFinal C O n d).before a0 Z = true ∧ own = O ∧ meth.name = "<init>")) (wi : (Jvm.Cond.instantiable C kk).before a0 Z = true) (hty : parseFieldDescriptor d = some ty) (hn : narrow ty v = v') (hf : fits ty v' = true) (hd : decode bs pc = .ok (.putfield idx, 3)) (pc' : Nat) (hp : pc + 3 = pc') (k : ∀ T' h', Stand p l e R s m args below meth c T' (locs ++ [⟨a, Jvm.RoadKit.slotOf Z O n d⟩]) cells slots → T'.heap = h' → Wr h h' a (Jvm.RoadKit.slotOf Z O n d) v' → Go p e below G T' (mkF m pc' Ls st)) : Go p e below G T (mkF m pc Ls (v :: .ref a :: st)) := by
  subst hp
  obtain ⟨T1, h1, X1, e1, W1, st1⟩ := putFN X hx hZ hown w via eT F E lw wi hty hn hf (g := mkF m pc Ls (v :: .ref a :: st)) rfl rfl (hb hby hd)
  exact Go.by (fun t q => st1 t q) (k T1 h1 X1 e1 W1)
theorem own_callP (X : Stand p l e R s m args below meth c T locs cells slots) (hx : p.tables.exec = Jvm.exec) (hby : c.code = bs) (hZ : Z.Warmed39 s.vm) {own : String} {idx : Nat} {y : MethodName} {yb : ByteArray} {yml : Nat} {yrt : Option FieldType} {rm : Room} {as : Array Value} {Qc : Option Value → Heap → List Loc → Prop} {a : Addr} {C : String} (argsL : List Value) (has : (.ref a :: argsL).toArray = as) (hown : s.vm.findClass own = some m.cls) (w1 : (Jvm.Cond.methodLink own idx y).before a0 Z = true) (w2 : (Jvm.Cond.instanceMethod y).before a0 Z = true) {kk : Nat} (w6 : (Jvm.Cond.instantiable y.cls kk).before a0 Z = true) (w7 : (Jvm.Cond.privateMethod y).before a0 Z = true) (w3 : (Jvm.Cond.initialized y.cls).before a0 Z = true) (w4 : (Jvm.Cond.code y yb yml yrt).before a0 Z = true) (E : Exa Z h a C) (hy : y.cls ≠ "java/lang/invoke/MethodHandle" ∧ y.cls ≠ "java/lang/invoke/VarHandle") (hd : decode bs pc = .ok (.invokevirtual idx, 3)) (hM : Met1 l Z y yb yml yrt rm as h Qc) (eT : T.heap = h) {ps : List FieldType} {pr : Option FieldType} (hpd : parseMethodDescriptor y.desc = some ⟨ps, pr⟩) (hlen : argsL.length = ps.length) (hml : Ls.size = c.maxLocals) (hf : rm.frames + 1 ≤ R.frames) (W : Nat) (hW : (st.map fun v => v.category).sum = W) (hl : W + (yml + 11) + rm.locals ≤ R.locals) (hcl : cells + rm.cells ≤ R.cells) (hsl : slots + rm.slots ≤ R.slots) (pc' : Nat) (hp : pc + 3 = pc') (k : ∀ (T' : State) (L : List Loc) (v : Option Value), Stand p l e R s m args below meth c T' (locs ++ L) (cells + rm.cells) (slots + rm.slots) → Qc v T'.heap L → Go p e below G T' (mkF m pc' Ls (v.toList ++ st))) : Go p e below G T (mkF m pc Ls (argsL.reverse ++ .ref a :: st)) := by
  subst has
  obtain ⟨cq, q1, q2⟩ := E.cell
  have pv := Cond.privateMethod_at (mvP hZ w7 (args := #[]))
  have sel : (Jvm.Cond.selects y.cls y y).before args s = true := by
    obtain ⟨c1, k1, r1, r2, -, r3, -, -⟩ := Cond.instantiable_spec (mvT (args := args) hZ w6)
    exact selects_self_of_private r1 r2 (Bool.or_eq_false_iff.mp r3).1 pv (mvT hZ w2) hy
  subst hp
  obtain ⟨v, vm₁, ⟨T1, L1, k1, n1⟩, -, X1, ⟨Lc, hQ, l1, y1, z1⟩, st1⟩ := X.privateBack hx (y := y) hown (mvT hZ w1) (mvT hZ w2) sel pv (mvT hZ w4) hy (backOf (W := W) (hM []) hZ w4 w3 hf hl) (g := mkF m pc Ls (argsL.reverse ++ .ref a :: st)) rfl hml (Steps.refl _) (a := a) (by rw [eT]; exact q1) q2 (argsL := argsL) (rest := st) (lenOf hpd hlen) rfl (by show 2 * 0 + _ ≤ _; omega) (hb hby hd) (fun _ _ => ⟨rfl, eT, hcl, hsl⟩)
  dsimp only [Pt.U, Pt.locs, Pt.cells, Pt.slots] at X1 l1 y1 z1 st1 hQ
  subst l1 y1 z1
  exact Go.by (fun t q => st1.trans q) (k T1 Lc v X1 hQ)
theorem own_instY (X : Stand p l e R s m args below meth c T locs cells slots) (hx : p.tables.exec = Jvm.exec) (hby : c.code = bs) (hZ : Z.Warmed39 s.vm) {own K : String} {idx : Nat} {a : Addr} (hown : s.vm.findClass own = some m.cls) (w : (Jvm.Cond.classLink own idx K).before a0 Z = true) (eT : T.heap = h) (F : Ins Z h a K true) (hd : decode bs pc = .ok (.instanceof idx, 3)) (pc' : Nat) (hp : pc + 3 = pc') (k : ∀ T', Stand p l e R s m args below meth c T' locs cells slots → T'.heap = h → Go p e below G T' (mkF m pc' Ls (.int 1 :: st))) : Go p e below G T (mkF m pc Ls (.ref a :: st)) := by
  subst hp
  obtain ⟨T1, X1, e1, st1⟩ := instY X hx hZ hown w eT F (g := mkF m pc Ls (.ref a :: st)) rfl rfl (hb hby hd)
  exact Go.by (fun t q => st1 t q) (k T1 X1 e1)
theorem own_instNo (X : Stand p l e R s m args below meth c T locs cells slots) (hx : p.tables.exec = Jvm.exec) (hby : c.code = bs) (hZ : Z.Warmed39 s.vm) {own K : String} {idx : Nat} {a : Addr} (hown : s.vm.findClass own = some m.cls) (w : (Jvm.Cond.classLink own idx K).before a0 Z = true) (eT : T.heap = h) {C : String} (E : Exa Z h a C) (F : ∃ c t, Z.vm.findClass C = some c ∧ Z.vm.findClass K = some t ∧ Z.vm.assignable c t = false) (hd : decode bs pc = .ok (.instanceof idx, 3)) (pc' : Nat) (hp : pc + 3 = pc') (k : ∀ T', Stand p l e R s m args below meth c T' locs cells slots → T'.heap = h → Go p e below G T' (mkF m pc' Ls (.int 0 :: st))) : Go p e below G T (mkF m pc Ls (.ref a :: st)) := by
  subst hp
  obtain ⟨T1, X1, e1, st1⟩ := instNo X hx hZ hown w eT E F (g := mkF m pc Ls (.ref a :: st)) rfl rfl (hb hby hd)
  exact Go.by (fun t q => st1 t q) (k T1 X1 e1)
theorem own_castY (X : Stand p l e R s m args below meth c T locs cells slots) (hx : p.tables.exec = Jvm.exec) (hby : c.code = bs) (hZ : Z.Warmed39 s.vm) {own K : String} {idx : Nat} {a : Addr} (hown : s.vm.findClass own = some m.cls) (w : (Jvm.Cond.classLink own idx K).before a0 Z = true) (eT : T.heap = h) (F : Ins Z h a K true) (hd : decode bs pc = .ok (.checkcast idx, 3)) (pc' : Nat) (hp : pc + 3 = pc') (k : ∀ T', Stand p l e R s m args below meth c T' locs cells slots → T'.heap = h → Go p e below G T' (mkF m pc' Ls (.ref a :: st))) : Go p e below G T (mkF m pc Ls (.ref a :: st)) := by
  subst hp
  obtain ⟨T1, X1, e1, st1⟩ := castY X hx hZ hown w eT F (g := mkF m pc Ls (.ref a :: st)) rfl rfl (hb hby hd)
  exact Go.by (fun t q => st1 t q) (k T1 X1 e1)
theorem own_instNull (X : Stand p l e R s m args below meth c T locs cells slots) (hx : p.tables.exec = Jvm.exec) (hby : c.code = bs) {idx : Nat} (hd : decode bs pc = .ok (.instanceof idx, 3)) (pc' : Nat) (hp : pc + 3 = pc') (k : Go p e below G T (mkF m pc' Ls (.int 0 :: st))) : Go p e below G T (mkF m pc Ls (.null :: st)) := by
  subst hp
  exact Go.by (fun t q => X.instanceofNull hx (g := mkF m pc Ls (.null :: st)) rfl rfl (hb hby hd) t q) k
theorem own_castNull (X : Stand p l e R s m args below meth c T locs cells slots) (hx : p.tables.exec = Jvm.exec) (hby : c.code = bs) {idx : Nat} (hd : decode bs pc = .ok (.checkcast idx, 3)) (pc' : Nat) (hp : pc + 3 = pc') (k : Go p e below G T (mkF m pc' Ls (.null :: st))) : Go p e below G T (mkF m pc Ls (.null :: st)) := by
  subst hp
  exact Go.by (fun t q => X.checkcastNull hx (g := mkF m pc Ls (.null :: st)) rfl rfl (hb hby hd) t q) k
theorem own_acmp (X : Stand p l e R s m args below meth c T locs cells slots) (hx : p.tables.exec = Jvm.exec) (hby : c.code = bs) {cd : ACond} {o : Int} {x y : Value} (same : Bool) (hd : decode bs pc = .ok (.if_acmp cd o, 3)) (h1 : x.isRef = true) (h2 : y.isRef = true) (hq : decide (x = y) = same) (ho : 0 ≤ (pc : Int) + o) (pc' : Nat) (hp : pc' = if acV cd same = true then ((pc : Int) + o).toNat else pc + 3) (k : Go p e below G T (mkF m pc' Ls st)) : Go p e below G T (mkF m pc Ls (y :: x :: st)) :=
  Go.by (fun t q => Jvm.RoadKit.acmp (g := mkF m pc Ls (y :: x :: st)) X hx rfl h1 h2 (pc0 := pc) (pc' := pc') (same := same) rfl (hb hby hd) rfl hq ho hp q) k
theorem own_getS (X : Stand p l e R s m args below meth c T locs cells slots) (hx : p.tables.exec = Jvm.exec) (hby : c.code = bs) (hZ : Z.Warmed39 s.vm) {own R0 O n d host : String} {idx : Nat} {v : Value} (hown : s.vm.findClass own = some m.cls) (w : (Jvm.Cond.fieldLink own idx R0 n d).before a0 Z = true ∨ (Jvm.Cond.fieldLinkNest own idx R0 n d host).before a0 Z = true) (via : Via Z R0 O n d) (eT : T.heap = h) (F : Sta Z h O n d v) (hd : decode bs pc = .ok (.getstatic idx, 3)) (pc' : Nat) (hp : pc + 3 = pc') (k : ∀ T', Stand p l e R s m args below meth c T' locs cells slots → T'.heap = h → Go p e below G T' (mkF m pc' Ls (v :: st))) : Go p e below G T (mkF m pc Ls st) := by
  subst hp
  obtain ⟨T1, X1, e1, st1⟩ := getS2 X hx hZ hown w via eT F (g := mkF m pc Ls st) rfl (hb hby hd)
  exact Go.by (fun t q => st1 t q) (k T1 X1 e1)
/-- an array of n places that hold what f says -/
def Afn (Z : State) (h : Heap) (a : Addr) (ty : FieldType) (n : Nat) (f : Nat → Value) : Prop := ∃ cl : Cell, Arr Z h a cl ty ∧ cl.slots.size = n ∧ ∀ i, i < n → cl.slots[i]? = some (f i) ∧ fits ty (f i) = true
def upd (f : Nat → Value) (i : Nat) (v : Value) : Nat → Value := fun j => if j = i then v else f j
theorem Afn.lt {a : Addr} {ty : FieldType} {n : Nat} {f : Nat → Value} (F : Afn Z h a ty n f) : a < h.size := by obtain ⟨cl, A, -⟩ := F; exact A.lt
theorem Afn.ext {h' : Heap} {a : Addr} {ty : FieldType} {n : Nat} {f : Nat → Value} (F : Afn Z h a ty n f) (E : Ext h h') : Afn Z h' a ty n f := by obtain ⟨cl, A, r⟩ := F; exact ⟨cl, A.ext E, r⟩
theorem Afn.other {h' : Heap} {a b : Addr} {sl : Nat} {v : Value} {ty : FieldType} {n : Nat} {f : Nat → Value} (F : Afn Z h b ty n f) (W : Wr h h' a sl v) (q : b ≠ a) : Afn Z h' b ty n f := by obtain ⟨cl, A, r⟩ := F; exact ⟨cl, A.other W q, r⟩
theorem Afn.keep {h' : Heap} {a : Addr} {ws : List Addr} {ty : FieldType} {n : Nat} {f : Nat → Value} (F : Afn Z h a ty n f) (K : Keep h h' ws) (q : a ∉ ws) : Afn Z h' a ty n f := by obtain ⟨cl, A, r⟩ := F; exact ⟨cl, ⟨K.2.1 a cl A.1 q, A.2⟩, r⟩
theorem Afn.to {a : Addr} {ty : FieldType} {n : Nat} {f f' : Nat → Value} (F : Afn Z h a ty n f) (q : ∀ i, i < n → f i = f' i) : Afn Z h a ty n f' := by obtain ⟨cl, A, S, H⟩ := F; exact ⟨cl, A, S, fun i hi => q i hi ▸ H i hi⟩
theorem Afn.new {a : Addr} {k : ClassId} {ty : FieldType} {z : Int32} {n : Nat} (A : Arr Z h a (newA k ty z) ty) (q : z.toNatClampNeg = n) : Afn Z h a ty n (fun _ => defaultValue ty) := by
  refine ⟨_, A, by rw [sz_new]; exact q, fun i hi => ⟨?_, by cases ty <;> rfl⟩⟩
  subst q
  show (Array.replicate z.toNatClampNeg (defaultValue ty))[i]? = _
  rw [Array.getElem?_replicate, if_pos hi]
theorem Afn.set {h' : Heap} {a : Addr} {ty : FieldType} {n i : Nat} {v : Value} {f : Nat → Value} (F : Afn Z h a ty n f) (W : Wr h h' a i v) (hi : i < n) (hv : fits ty v = true) : Afn Z h' a ty n (upd f i v) := by
  obtain ⟨cl, A, S, H⟩ := F
  refine ⟨cl.setSlot i v, A.same W, by rw [sz_set]; exact S, fun j hj => ?_⟩
  unfold upd
  by_cases q : j = i
  · subst q
    rw [if_pos rfl]
    refine ⟨?_, hv⟩
    show (cl.slots.setIfInBounds j v)[j]? = some v
    rw [Array.getElem?_setIfInBounds_self_of_lt (by rw [S]; exact hj)]
  · rw [if_neg q]
    refine ⟨?_, (H j hj).2⟩
    rw [← (H j hj).1]
    exact Array.getElem?_setIfInBounds_ne (Ne.symm q)
theorem own_in {j : Int32} {n : Nat} (h0 : 0 ≤ j.toInt) (h1 : j.toInt < n) : ¬ (j < 0 ∨ n ≤ j.toNatClampNeg) := by
  simp only [Int32.lt_iff_toInt_lt, Int32.toNatClampNeg, Int32.reduceToInt]; omega
/-- an array of ints (bytes, chars, shorts): n places that hold what g says -/
def Afi (Z : State) (h : Heap) (a : Addr) (ty : FieldType) (n : Nat) (g : Nat → Int32) : Prop := Afn Z h a ty n (fun i => .int (g i))
def updI (g : Nat → Int32) (i : Nat) (v : Int32) : Nat → Int32 := fun j => if j = i then v else g j
theorem Afi.lt {a : Addr} {ty : FieldType} {n : Nat} {g : Nat → Int32} (F : Afi Z h a ty n g) : a < h.size := Afn.lt F
theorem Afi.ext {h' : Heap} {a : Addr} {ty : FieldType} {n : Nat} {g : Nat → Int32} (F : Afi Z h a ty n g) (E : Ext h h') : Afi Z h' a ty n g := Afn.ext F E
theorem Afi.other {h' : Heap} {a b : Addr} {sl : Nat} {v : Value} {ty : FieldType} {n : Nat} {g : Nat → Int32} (F : Afi Z h b ty n g) (W : Wr h h' a sl v) (q : b ≠ a) : Afi Z h' b ty n g := Afn.other F W q
theorem Afi.keep {h' : Heap} {a : Addr} {ws : List Addr} {ty : FieldType} {n : Nat} {g : Nat → Int32} (F : Afi Z h a ty n g) (K : Keep h h' ws) (q : a ∉ ws) : Afi Z h' a ty n g := Afn.keep F K q
theorem Afi.to {a : Addr} {ty : FieldType} {n : Nat} {g g' : Nat → Int32} (F : Afi Z h a ty n g) (q : ∀ i, i < n → g i = g' i) : Afi Z h a ty n g' := Afn.to F fun i hi => congrArg Value.int (q i hi)
theorem Afi.set {h' : Heap} {a : Addr} {ty : FieldType} {n i : Nat} {v : Int32} {g : Nat → Int32} (F : Afi Z h a ty n g) (W : Wr h h' a i (.int v)) (hi : i < n) (hv : fits ty (.int v) = true) : Afi Z h' a ty n (updI g i v) :=
  (Afn.set F W hi hv).to fun j _ => by
    unfold upd updI
    by_cases q : j = i
    · rw [if_pos q, if_pos q]
    · rw [if_neg q, if_neg q]
theorem own_iaload (X : Stand p l e R s m args below meth c T locs cells slots) (hx : p.tables.exec = Jvm.exec) (hby : c.code = bs) (hZ : Z.Warmed39 s.vm) {a : Addr} {j : Int32} {n : Nat} {g : Nat → Int32} (v : Int32) (eT : T.heap = h) (F : Afi Z h a .int n g) (hj : ¬ (j < 0 ∨ n ≤ j.toNatClampNeg)) (hv : g j.toNatClampNeg = v) (hd : decode bs pc = .ok (.iaload, 1)) (pc' : Nat) (hp : pc + 1 = pc') (k : Go p e below G T (mkF m pc' Ls (.int v :: st))) : Go p e below G T (mkF m pc Ls (.int j :: .ref a :: st)) := by
  subst hp
  subst hv
  obtain ⟨cl, A, S, H⟩ := F
  subst S
  exact Go.by (fun t q => X.iaload hx (j := j) (v := .int (g j.toNatClampNeg)) (by rw [eT]; exact A.1) (State.isArrayOf_alike hZ.alike A.2.1) A.2.2 hj (H _ (Nat.lt_of_not_le fun q => hj (Or.inr q))).1 (g := mkF m pc Ls (.int j :: .ref a :: st)) rfl rfl (hb hby hd) t q) k
theorem own_baload (X : Stand p l e R s m args below meth c T locs cells slots) (hx : p.tables.exec = Jvm.exec) (hby : c.code = bs) (hZ : Z.Warmed39 s.vm) {a : Addr} {j : Int32} {n : Nat} {g : Nat → Int32} (v : Int32) (eT : T.heap = h) (F : Afi Z h a .byte n g) (hj : ¬ (j < 0 ∨ n ≤ j.toNatClampNeg)) (hv : g j.toNatClampNeg = v) (hd : decode bs pc = .ok (.baload, 1)) (pc' : Nat) (hp : pc + 1 = pc') (k : Go p e below G T (mkF m pc' Ls (.int v :: st))) : Go p e below G T (mkF m pc Ls (.int j :: .ref a :: st)) := by
  subst hp
  subst hv
  obtain ⟨cl, A, S, H⟩ := F
  subst S
  exact Go.by (fun t q => X.baloadBytes hx (j := j) (v := .int (g j.toNatClampNeg)) (by rw [eT]; exact A.1) (State.isArrayOf_alike hZ.alike A.2.1) A.2.2 hj (H _ (Nat.lt_of_not_le fun q => hj (Or.inr q))).1 (g := mkF m pc Ls (.int j :: .ref a :: st)) rfl rfl (hb hby hd) t q) k
theorem own_caload (X : Stand p l e R s m args below meth c T locs cells slots) (hx : p.tables.exec = Jvm.exec) (hby : c.code = bs) (hZ : Z.Warmed39 s.vm) {a : Addr} {j : Int32} {n : Nat} {g : Nat → Int32} (v : Int32) (eT : T.heap = h) (F : Afi Z h a .char n g) (hj : ¬ (j < 0 ∨ n ≤ j.toNatClampNeg)) (hv : g j.toNatClampNeg = v) (hd : decode bs pc = .ok (.caload, 1)) (pc' : Nat) (hp : pc + 1 = pc') (k : Go p e below G T (mkF m pc' Ls (.int v :: st))) : Go p e below G T (mkF m pc Ls (.int j :: .ref a :: st)) := by
  subst hp
  subst hv
  obtain ⟨cl, A, S, H⟩ := F
  subst S
  exact Go.by (fun t q => X.caload hx (j := j) (v := .int (g j.toNatClampNeg)) (by rw [eT]; exact A.1) (State.isArrayOf_alike hZ.alike A.2.1) A.2.2 hj (H _ (Nat.lt_of_not_le fun q => hj (Or.inr q))).1 (g := mkF m pc Ls (.int j :: .ref a :: st)) rfl rfl (hb hby hd) t q) k
theorem own_saload (X : Stand p l e R s m args below meth c T locs cells slots) (hx : p.tables.exec = Jvm.exec) (hby : c.code = bs) (hZ : Z.Warmed39 s.vm) {a : Addr} {j : Int32} {n : Nat} {g : Nat → Int32} (v : Int32) (eT : T.heap = h) (F : Afi Z h a .short n g) (hj : ¬ (j < 0 ∨ n ≤ j.toNatClampNeg)) (hv : g j.toNatClampNeg = v) (hd : decode bs pc = .ok (.saload, 1)) (pc' : Nat) (hp : pc + 1 = pc') (k : Go p e below G T (mkF m pc' Ls (.int v :: st))) : Go p e below G T (mkF m pc Ls (.int j :: .ref a :: st)) := by
  subst hp
  subst hv
  obtain ⟨cl, A, S, H⟩ := F
  subst S
  exact Go.by (fun t q => X.saload hx (j := j) (v := .int (g j.toNatClampNeg)) (by rw [eT]; exact A.1) (State.isArrayOf_alike hZ.alike A.2.1) A.2.2 hj (H _ (Nat.lt_of_not_le fun q => hj (Or.inr q))).1 (g := mkF m pc Ls (.int j :: .ref a :: st)) rfl rfl (hb hby hd) t q) k
theorem own_aaload (X : Stand p l e R s m args below meth c T locs cells slots) (hx : p.tables.exec = Jvm.exec) (hby : c.code = bs) (hZ : Z.Warmed39 s.vm) {a : Addr} {j : Int32} {n : Nat} {ty : FieldType} {f : Nat → Value} (v : Value) (eT : T.heap = h) (F : Afn Z h a ty n f) (hty : ty.isReference = true) (hj : ¬ (j < 0 ∨ n ≤ j.toNatClampNeg)) (hv : f j.toNatClampNeg = v) (hd : decode bs pc = .ok (.aaload, 1)) (pc' : Nat) (hp : pc + 1 = pc') (k : Go p e below G T (mkF m pc' Ls (v :: st))) : Go p e below G T (mkF m pc Ls (.int j :: .ref a :: st)) := by
  subst hp
  subst hv
  obtain ⟨cl, A, S, H⟩ := F
  subst S
  exact Go.by (fun t q => X.aaload hx (j := j) (v := f j.toNatClampNeg) (by rw [eT]; exact A.1) (State.isArrayOf_alike hZ.alike A.2.1) hty A.2.2 hj (H _ (Nat.lt_of_not_le fun q => hj (Or.inr q))).1 (g := mkF m pc Ls (.int j :: .ref a :: st)) rfl rfl (hb hby hd) t q) k
theorem own_arraylength (X : Stand p l e R s m args below meth c T locs cells slots) (hx : p.tables.exec = Jvm.exec) (hby : c.code = bs) (hZ : Z.Warmed39 s.vm) {a : Addr} {ty : FieldType} {n : Nat} {f : Nat → Value} (z : Int32) (eT : T.heap = h) (F : Afn Z h a ty n f) (hz : n.toInt32 = z) (hd : decode bs pc = .ok (.arraylength, 1)) (pc' : Nat) (hp : pc + 1 = pc') (k : Go p e below G T (mkF m pc' Ls (.int z :: st))) : Go p e below G T (mkF m pc Ls (.ref a :: st)) := by
  subst hp
  subst hz
  obtain ⟨cl, A, S, H⟩ := F
  subst S
  exact Go.by (fun t q => X.arraylength hx (by rw [eT]; exact A.1) (State.isArrayOf_alike hZ.alike A.2.1) (g := mkF m pc Ls (.ref a :: st)) rfl rfl (hb hby hd) t q) k
theorem own_iastore (X : Stand p l e R s m args below meth c T locs cells slots) (hx : p.tables.exec = Jvm.exec) (hby : c.code = bs) (hZ : Z.Warmed39 s.vm) {a : Addr} {j x : Int32} {n : Nat} {g : Nat → Int32} (eT : T.heap = h) (F : Afi Z h a .int n g) (hj : ¬ (j < 0 ∨ n ≤ j.toNatClampNeg)) (hd : decode bs pc = .ok (.iastore, 1)) (pc' : Nat) (hp : pc + 1 = pc') (k : ∀ T' h', Stand p l e R s m args below meth c T' (locs ++ [⟨a, j.toNatClampNeg⟩]) cells slots → T'.heap = h' → Wr h h' a j.toNatClampNeg (.int x) → Afi Z h' a .int n (updI g j.toNatClampNeg x) → Go p e below G T' (mkF m pc' Ls st)) : Go p e below G T (mkF m pc Ls (.int x :: .int j :: .ref a :: st)) := by
  subst hp
  have F0 := F
  obtain ⟨cl, A, S, H⟩ := F
  obtain ⟨T1, h1, X1, e1, W1, st1⟩ := stI X hx hZ eT A (j := j) (x := x) (by rw [S]; exact hj) (g := mkF m pc Ls (.int x :: .int j :: .ref a :: st)) rfl rfl (hb hby hd)
  exact Go.by (fun t q => st1 t q) (k T1 h1 X1 e1 W1 (F0.set W1 (Nat.lt_of_not_le fun q => hj (Or.inr q)) rfl))
theorem own_bastore (X : Stand p l e R s m args below meth c T locs cells slots) (hx : p.tables.exec = Jvm.exec) (hby : c.code = bs) (hZ : Z.Warmed39 s.vm) {a : Addr} {j x : Int32} {n : Nat} {g : Nat → Int32} (eT : T.heap = h) (F : Afi Z h a .byte n g) (hj : ¬ (j < 0 ∨ n ≤ j.toNatClampNeg)) (hd : decode bs pc = .ok (.bastore, 1)) (pc' : Nat) (hp : pc + 1 = pc') (k : ∀ T' h', Stand p l e R s m args below meth c T' (locs ++ [⟨a, j.toNatClampNeg⟩]) cells slots → T'.heap = h' → Wr h h' a j.toNatClampNeg (.int (nar .byte x)) → Afi Z h' a .byte n (updI g j.toNatClampNeg (nar .byte x)) → Go p e below G T' (mkF m pc' Ls st)) : Go p e below G T (mkF m pc Ls (.int x :: .int j :: .ref a :: st)) := by
  subst hp
  have F0 := F
  obtain ⟨cl, A, S, H⟩ := F
  obtain ⟨T1, h1, X1, e1, W1, st1⟩ := stB X hx hZ eT A (j := j) (x := x) (by rw [S]; exact hj) (g := mkF m pc Ls (.int x :: .int j :: .ref a :: st)) rfl rfl (hb hby hd)
  exact Go.by (fun t q => st1 t q) (k T1 h1 X1 e1 W1 (F0.set W1 (Nat.lt_of_not_le fun q => hj (Or.inr q)) (fits_nar_byte x)))
theorem own_castore (X : Stand p l e R s m args below meth c T locs cells slots) (hx : p.tables.exec = Jvm.exec) (hby : c.code = bs) (hZ : Z.Warmed39 s.vm) {a : Addr} {j x : Int32} {n : Nat} {g : Nat → Int32} (eT : T.heap = h) (F : Afi Z h a .char n g) (hj : ¬ (j < 0 ∨ n ≤ j.toNatClampNeg)) (hd : decode bs pc = .ok (.castore, 1)) (pc' : Nat) (hp : pc + 1 = pc') (k : ∀ T' h', Stand p l e R s m args below meth c T' (locs ++ [⟨a, j.toNatClampNeg⟩]) cells slots → T'.heap = h' → Wr h h' a j.toNatClampNeg (.int (nar .char x)) → Afi Z h' a .char n (updI g j.toNatClampNeg (nar .char x)) → Go p e below G T' (mkF m pc' Ls st)) : Go p e below G T (mkF m pc Ls (.int x :: .int j :: .ref a :: st)) := by
  subst hp
  have F0 := F
  obtain ⟨cl, A, S, H⟩ := F
  obtain ⟨T1, h1, X1, e1, W1, st1⟩ := stC X hx hZ eT A (j := j) (x := x) (by rw [S]; exact hj) (g := mkF m pc Ls (.int x :: .int j :: .ref a :: st)) rfl rfl (hb hby hd)
  exact Go.by (fun t q => st1 t q) (k T1 h1 X1 e1 W1 (F0.set W1 (Nat.lt_of_not_le fun q => hj (Or.inr q)) (fits_nar_char x)))
theorem own_sastore (X : Stand p l e R s m args below meth c T locs cells slots) (hx : p.tables.exec = Jvm.exec) (hby : c.code = bs) (hZ : Z.Warmed39 s.vm) {a : Addr} {j x : Int32} {n : Nat} {g : Nat → Int32} (eT : T.heap = h) (F : Afi Z h a .short n g) (hj : ¬ (j < 0 ∨ n ≤ j.toNatClampNeg)) (hd : decode bs pc = .ok (.sastore, 1)) (pc' : Nat) (hp : pc + 1 = pc') (k : ∀ T' h', Stand p l e R s m args below meth c T' (locs ++ [⟨a, j.toNatClampNeg⟩]) cells slots → T'.heap = h' → Wr h h' a j.toNatClampNeg (.int (nar .short x)) → Afi Z h' a .short n (updI g j.toNatClampNeg (nar .short x)) → Go p e below G T' (mkF m pc' Ls st)) : Go p e below G T (mkF m pc Ls (.int x :: .int j :: .ref a :: st)) := by
  subst hp
  have F0 := F
  obtain ⟨cl, A, S, H⟩ := F
  obtain ⟨T1, h1, X1, e1, W1, st1⟩ := stS X hx hZ eT A (j := j) (x := x) (by rw [S]; exact hj) (g := mkF m pc Ls (.int x :: .int j :: .ref a :: st)) rfl rfl (hb hby hd)
  exact Go.by (fun t q => st1 t q) (k T1 h1 X1 e1 W1 (F0.set W1 (Nat.lt_of_not_le fun q => hj (Or.inr q)) (fits_nar_short x)))
theorem own_aastore (X : Stand p l e R s m args below meth c T locs cells slots) (hx : p.tables.exec = Jvm.exec) (hby : c.code = bs) (hZ : Z.Warmed39 s.vm) {a : Addr} {j : Int32} {v : Value} {n : Nat} {ty : FieldType} {f : Nat → Value} (eT : T.heap = h) (F : Afn Z h a ty n f) (hj : ¬ (j < 0 ∨ n ≤ j.toNatClampNeg)) (hty : ty.isReference = true) (hfv : fits ty v = true) (So : Sto Z h a v) (hd : decode bs pc = .ok (.aastore, 1)) (pc' : Nat) (hp : pc + 1 = pc') (k : ∀ T' h', Stand p l e R s m args below meth c T' (locs ++ [⟨a, j.toNatClampNeg⟩]) cells slots → T'.heap = h' → Wr h h' a j.toNatClampNeg v → Afn Z h' a ty n (upd f j.toNatClampNeg v) → Go p e below G T' (mkF m pc' Ls st)) : Go p e below G T (mkF m pc Ls (v :: .int j :: .ref a :: st)) := by
  subst hp
  have F0 := F
  obtain ⟨cl, A, S, H⟩ := F
  obtain ⟨T1, h1, X1, e1, W1, st1⟩ := stR X hx hZ eT A (j := j) (by rw [S]; exact hj) hty So (g := mkF m pc Ls (v :: .int j :: .ref a :: st)) rfl rfl (hb hby hd)
  exact Go.by (fun t q => st1 t q) (k T1 h1 X1 e1 W1 (F0.set W1 (Nat.lt_of_not_le fun q => hj (Or.inr q)) hfv))
theorem own_newarray (X : Stand p l e R s m args below meth c T locs cells slots) (hx : p.tables.exec = Jvm.exec) (hby : c.code = bs) (hZ : Z.Warmed39 s.vm) {aty : ArrayType} {z : Int32} {n cap : Nat} {ad : String} (w : (Jvm.Cond.arrayClass (newarray.typeOf aty)).before a0 Z = true) (eT : T.heap = h) (hd : decode bs pc = .ok (.newarray aty, 2)) (hz : ¬ z < 0) (hn : z.toNatClampNeg = n) (hcap : n ≤ cap) (hb8 : cap * 8 ≤ 536870912) (hcl : cells + 1 ≤ R.cells) (hsl : slots + cap ≤ R.slots) (had : "[" ++ (newarray.typeOf aty).toString = ad) (pc' : Nat) (hp : pc + 2 = pc') (k : ∀ T' h' (b : Addr), b = h.size → Stand p l e R s m args below meth c T' locs (cells + 1) (slots + cap) → T'.heap = h' → Ext h h' → Afn Z h' b (newarray.typeOf aty) n (fun _ => defaultValue (newarray.typeOf aty)) → Exa Z h' b ad → Go p e below G T' (mkF m pc' Ls (.ref b :: st))) : Go p e below G T (mkF m pc Ls (.int z :: st)) := by
  subst hp
  obtain ⟨T1, h1, cA, X1, e1, E1, A1, Ex1, st1⟩ := newPE X hx hZ w eT (g := mkF m pc Ls (.int z :: st)) rfl (hb hby hd) rfl hz (cap := cap) (by rw [hn]; exact hcap) hb8 hcl hsl had
  exact Go.by (fun t q => st1 t q) (k T1 h1 _ rfl X1 e1 E1 (Afn.new A1 hn) Ex1)
theorem own_anewarray (X : Stand p l e R s m args below meth c T locs cells slots) (hx : p.tables.exec = Jvm.exec) (hby : c.code = bs) (hZ : Z.Warmed39 s.vm) {own C : String} {idx : Nat} {z : Int32} {n cap : Nat} {ad : String} (hown : s.vm.findClass own = some m.cls) (w1 : (Jvm.Cond.classLink own idx C).before a0 Z = true) (w2 : (Jvm.Cond.arrayOver (.object C)).before a0 Z = true) (eT : T.heap = h) (hd : decode bs pc = .ok (.anewarray idx, 3)) (hz : ¬ z < 0) (hn : z.toNatClampNeg = n) (hcap : n ≤ cap) (hb8 : cap * 8 ≤ 536870912) (hcl : cells + 1 ≤ R.cells) (hsl : slots + cap ≤ R.slots) (had : "[" ++ (FieldType.object C).toString = ad) (pc' : Nat) (hp : pc + 3 = pc') (k : ∀ T' h' (b : Addr) cA, b = h.size → Stand p l e R s m args below meth c T' locs (cells + 1) (slots + cap) → T'.heap = h' → Ext h h' → Afn Z h' b (.object C) n (fun _ => .null) → Exa Z h' b ad → Arr Z h' b (newA cA (.object C) z) (.object C) → Ovr Z cA C → Go p e below G T' (mkF m pc' Ls (.ref b :: st))) : Go p e below G T (mkF m pc Ls (.int z :: st)) := by
  subst hp
  obtain ⟨T1, h1, cA, X1, e1, E1, A1, Ex1, O1, st1⟩ := newRE X hx hZ hown w1 w2 eT (g := mkF m pc Ls (.int z :: st)) rfl (hb hby hd) rfl hz (cap := cap) (by rw [hn]; exact hcap) hb8 hcl hsl had
  exact Go.by (fun t q => st1 t q) (k T1 h1 _ cA rfl X1 e1 E1 (Afn.new A1 hn) Ex1 A1 O1)
theorem own_lremV (x y : Int64) : 0 ≤ x.toInt → 0 < y.toInt → 0 ≤ (x % y).toInt ∧ (x % y).toInt < y.toInt := by
  intro h1 h2
  rw [Int64.toInt_mod, (tr x.toInt y.toInt).1 h1]
  exact ⟨Int.emod_nonneg _ (by omega), Int.emod_lt_of_pos _ h2⟩
theorem own_NSroot {O K : String} {n : Nat} (w : (Jvm.Cond.noSuperclass O).before a0 Z = true) (wk : (Jvm.Cond.instantiable K n).before a0 Z = true) (hn : O ≠ K) : NS Z O K := by
  obtain ⟨c, k, h1, h2, h3, -, -⟩ := Cond.noSuperclass_spec w
  obtain ⟨t, k2, g1, -⟩ := Cond.instantiable_spec wk
  have ne := ids_ne h1 g1 hn
  refine ⟨c, t, h1, g1, fun fuel => ?_⟩
  cases fuel with
  | zero => rfl
  | succ f => simp [Vm.isSubclassAux, ne, h2, h3]
theorem own_NSno {C S K : String} {n : Nat} (w : (Jvm.Cond.superclass C S).before a0 Z = true) (wk : (Jvm.Cond.instantiable K n).before a0 Z = true) (nn : NS Z C K) (hn : C ≠ K) : ∃ c t, Z.vm.findClass C = some c ∧ Z.vm.findClass K = some t ∧ Z.vm.assignable c t = false := by
  obtain ⟨c, t, h0, g0, n3⟩ := nn
  obtain ⟨p, k, kp, h1, h2, h3, h4, h5, -, h7⟩ := Cond.superclass_spec h0 w
  obtain ⟨t', k', g1, g2, g5, g6, -, -⟩ := Cond.instantiable_spec wk
  cases g0.symm.trans g1
  have ne := ids_ne h0 g0 hn
  have g7 : k'.isInterface = false := (Bool.or_eq_false_iff.mp g6).1
  refine ⟨c, t, h0, g0, ?_⟩
  show Z.vm.assignableAux (255 + 1) c t = false
  simp [Vm.assignableAux, ne, h2, g2, h5, g5, g7, Vm.isSubclass, n3]
theorem Keep.ext0 {h0 : Heap} (K : Keep h0 h []) : Ext h0 h := ⟨K.1, fun a c q => K.2.1 a c q nin0⟩
/-- an array of references over the class C takes objects of C -/
def Orr (Z : State) (h : Heap) (b : Addr) (C : String) : Prop := ∃ (c : Cell) (cA : ClassId), Arr Z h b c (.object C) ∧ c.cls = cA ∧ Ovr Z cA C
theorem Orr.lt {b : Addr} {C : String} (F : Orr Z h b C) : b < h.size := by obtain ⟨c, cA, A, -⟩ := F; exact A.lt
theorem Orr.ext {h' : Heap} {b : Addr} {C : String} (F : Orr Z h b C) (E : Ext h h') : Orr Z h' b C := by obtain ⟨c, cA, A, r⟩ := F; exact ⟨c, cA, A.ext E, r⟩
theorem Orr.wr {h' : Heap} {a b : Addr} {C : String} {sl : Nat} {v : Value} (F : Orr Z h b C) (W : Wr h h' a sl v) : Orr Z h' b C := by
  obtain ⟨c, cA, A, q, O⟩ := F
  by_cases e : b = a
  · subst e; exact ⟨_, cA, A.same W, q, O⟩
  · exact ⟨c, cA, A.other W e, q, O⟩
theorem Orr.sto {b y : Addr} {C : String} (F : Orr Z h b C) (I : Ins Z h y C true) : Sto Z h b (.ref y) := by
  obtain ⟨c, cA, A, q, O⟩ := F
  exact Sto.ofV A q O I
theorem own_clone (X : Stand p l e R s m args below meth c T locs cells slots) (hx : p.tables.exec = Jvm.exec) (hby : c.code = bs) (hZ : Z.Warmed39 s.vm) {own ad : String} {idx : Nat} {a : Addr} {ty : FieldType} {n cap : Nat} {g : Nat → Int32} (hown : s.vm.findClass own = some m.cls) (w1 : (Jvm.Cond.methodLink own idx ⟨ad, "clone", "()Ljava/lang/Object;"⟩).before a0 Z = true) (w2 : (Jvm.Cond.sameMethod ad "java/lang/Object" "clone" "()Ljava/lang/Object;").before a0 Z = true) (w3 : (Jvm.Cond.native ⟨"java/lang/Object", "clone", "()Ljava/lang/Object;"⟩).before a0 Z = true)
    (w4 : (Jvm.Cond.instanceMethod ⟨"java/lang/Object", "clone", "()Ljava/lang/Object;"⟩).before a0 Z = true) (w5 : (Jvm.Cond.selects ad ⟨ad, "clone", "()Ljava/lang/Object;"⟩ ⟨"java/lang/Object", "clone", "()Ljava/lang/Object;"⟩).before a0 Z = true) (w6 : (Jvm.Cond.castable ad "java/lang/Cloneable").before a0 Z = true)
    (eT : T.heap = h) (F : Afi Z h a ty n g) (E : Exa Z h a ad) (hml : Ls.size = c.maxLocals) (hd : decode bs pc = .ok (.invokevirtual idx, 3)) (hf : 1 ≤ R.frames) (W : Nat) (hW : (st.map fun v => v.category).sum = W) (hl : W + 14 ≤ R.locals) (hcap : n ≤ cap) (hcl : cells + 1 ≤ R.cells) (hsl : slots + cap ≤ R.slots) (pc' : Nat) (hp : pc + 3 = pc')
    (k : ∀ T' h' (b : Addr), b = h.size → Stand p l e R s m args below meth c T' locs (cells + 1) (slots + cap) → T'.heap = h' → Ext h h' → Afi Z h' b ty n g → Exa Z h' b ad → Go p e below G T' (mkF m pc' Ls (.ref b :: st))) : Go p e below G T (mkF m pc Ls (.ref a :: st)) := by
  subst hp
  obtain ⟨cl, A, S, H⟩ := F
  have FC : FitC Z cl := fitC_of A fun i hi v hv => by rw [(H i (S ▸ hi)).1] at hv; cases hv; exact (H i (S ▸ hi)).2
  obtain ⟨T1, h1, X1, e1, E1, A1, Ex1, st1⟩ := cloneA X hx hZ hown w1 w2 w3 w4 w5 w6 eT A E FC (g := mkF m pc Ls (.ref a :: st)) rfl hml rfl (hb hby hd) hf (W := W) (by show 2 * 0 + _ ≤ _; omega) hl (cap := cap) (by rw [S]; exact hcap) hcl hsl
  exact Go.by (fun t q => st1 t q) (k T1 h1 _ rfl X1 e1 E1 ⟨_, A1, S, H⟩ Ex1)
theorem own_fld_start {t : Term} {C n d : String} {k : Int32} {a : Addr} (ev : t.eval args Z none [] Z = some (.ref a)) (hh : (Jvm.Cond.eq (.field t C n d) (.int k)).value args Z none Z [] = some true) : Fld Z Z.heap a C n d (.int k) := by
  obtain ⟨x, y, h1, h2, h3, h4⟩ := cmp_v (Or.inl hh)
  have h2' : y = .int k := (Option.some.inj h2).symm
  subst h2'
  obtain ⟨z, rfl⟩ := h4
  have q : z = k := by
    simp only [Cond.value, h1, h2] at hh
    exact of_decide_eq_true (Option.some.inj hh)
  subst q
  rw [fld_at ev] at h1
  exact Fld.start h1
end OwnGo

theorem d2_0 : decode jdk_30_method_1_code 0 = .ok (.aload_n 0, 1) := by decide +kernel
theorem d2_1 : decode jdk_30_method_1_code 1 = .ok (.invokespecial 1, 3) := by decide +kernel
theorem d2_4 : decode jdk_30_method_1_code 4 = .ok (.return_, 1) := by decide +kernel
theorem pn_2 : plainName "java/lang/Record" = true := by first | (simp [plainName, overriddenIn]; done) | decide +kernel
theorem d1_0 : decode prog_3_method_1_code 0 = .ok (.aload_n 0, 1) := by decide +kernel
theorem d1_1 : decode prog_3_method_1_code 1 = .ok (.invokespecial 1, 3) := by decide +kernel
theorem d1_4 : decode prog_3_method_1_code 4 = .ok (.aload_n 3, 1) := by decide +kernel
theorem d1_5 : decode prog_3_method_1_code 5 = .ok (.ifnonnull 7, 3) := by decide +kernel
theorem d1_12 : decode prog_3_method_1_code 12 = .ok (.aload_n 3, 1) := by decide +kernel
theorem d1_13 : decode prog_3_method_1_code 13 = .ok (.invokevirtual 7, 3) := by decide +kernel
theorem d1_16 : decode prog_3_method_1_code 16 = .ok (.checkcast 8, 3) := by decide +kernel
theorem d1_19 : decode prog_3_method_1_code 19 = .ok (.astore_n 3, 1) := by decide +kernel
theorem d1_20 : decode prog_3_method_1_code 20 = .ok (.aload_n 0, 1) := by decide +kernel
theorem d1_21 : decode prog_3_method_1_code 21 = .ok (.aload_n 1, 1) := by decide +kernel
theorem d1_22 : decode prog_3_method_1_code 22 = .ok (.putfield 13, 3) := by decide +kernel
theorem d1_25 : decode prog_3_method_1_code 25 = .ok (.aload_n 0, 1) := by decide +kernel
theorem d1_26 : decode prog_3_method_1_code 26 = .ok (.aload_n 2, 1) := by decide +kernel
theorem d1_27 : decode prog_3_method_1_code 27 = .ok (.putfield 19, 3) := by decide +kernel
theorem d1_30 : decode prog_3_method_1_code 30 = .ok (.aload_n 0, 1) := by decide +kernel
theorem d1_31 : decode prog_3_method_1_code 31 = .ok (.aload_n 3, 1) := by decide +kernel
theorem d1_32 : decode prog_3_method_1_code 32 = .ok (.putfield 22, 3) := by decide +kernel
theorem d1_35 : decode prog_3_method_1_code 35 = .ok (.return_, 1) := by decide +kernel
theorem pn_1 : plainName "com/example/inflight/inflight/AttributeValue" = true := by first | (simp [plainName, overriddenIn]; done) | decide +kernel
theorem pd_1 : parseMethodDescriptor "()V" = some ⟨[], none⟩ := by decide +kernel
theorem d1_8 : decode prog_3_method_1_code 8 = .ok (.aconst_null, 1) := by decide +kernel
theorem d1_9 : decode prog_3_method_1_code 9 = .ok (.goto 10, 3) := by decide +kernel
theorem d4_0 : decode prog_3_method_2_code 0 = .ok (.aload_n 0, 1) := by decide +kernel
theorem d4_1 : decode prog_3_method_2_code 1 = .ok (.getfield 22, 3) := by decide +kernel
theorem d4_4 : decode prog_3_method_2_code 4 = .ok (.ifnonnull 7, 3) := by decide +kernel
theorem d4_11 : decode prog_3_method_2_code 11 = .ok (.aload_n 0, 1) := by decide +kernel
theorem d4_12 : decode prog_3_method_2_code 12 = .ok (.getfield 22, 3) := by decide +kernel
theorem d4_15 : decode prog_3_method_2_code 15 = .ok (.invokevirtual 7, 3) := by decide +kernel
theorem d4_18 : decode prog_3_method_2_code 18 = .ok (.checkcast 8, 3) := by decide +kernel
theorem d4_21 : decode prog_3_method_2_code 21 = .ok (.areturn, 1) := by decide +kernel
theorem d4_7 : decode prog_3_method_2_code 7 = .ok (.aconst_null, 1) := by decide +kernel
theorem d4_8 : decode prog_3_method_2_code 8 = .ok (.goto 13, 3) := by decide +kernel
theorem d5_0 : decode method_3_code 0 = .ok (.iload_n 1, 1) := by decide +kernel
theorem d5_1 : decode method_3_code 1 = .ok (.iconst 1, 1) := by decide +kernel
theorem d5_2 : decode method_3_code 2 = .ok (.if_icmp .lt 10, 3) := by decide +kernel
theorem d5_12 : decode method_3_code 12 = .ok (.iload_n 1, 1) := by decide +kernel
theorem d5_13 : decode method_3_code 13 = .ok (.iconst 2, 1) := by decide +kernel
theorem d5_14 : decode method_3_code 14 = .ok (.if_icmp .lt 10, 3) := by decide +kernel
theorem d5_24 : decode method_3_code 24 = .ok (.iload_n 1, 1) := by decide +kernel
theorem d5_25 : decode method_3_code 25 = .ok (.iconst 3, 1) := by decide +kernel
theorem d5_26 : decode method_3_code 26 = .ok (.if_icmp .lt 11, 3) := by decide +kernel
theorem d5_37 : decode method_3_code 37 = .ok (.iconst 1, 1) := by decide +kernel
theorem d5_38 : decode method_3_code 38 = .ok (.goto 4, 3) := by decide +kernel
theorem d5_42 : decode method_3_code 42 = .ok (.ireturn, 1) := by decide +kernel
theorem pn_5 : plainName "com/example/inflight/inflight/AttributeValueBinaryValuePinLaw" = true := by first | (simp [plainName, overriddenIn]; done) | decide +kernel
theorem d5_5 : decode method_3_code 5 = .ok (.aload_n 0, 1) := by decide +kernel
theorem d5_6 : decode method_3_code 6 = .ok (.iconst 0, 1) := by decide +kernel
theorem d5_7 : decode method_3_code 7 = .ok (.baload, 1) := by decide +kernel
theorem d5_8 : decode method_3_code 8 = .ok (.iload_n 2, 1) := by decide +kernel
theorem d5_9 : decode method_3_code 9 = .ok (.if_icmp .ne 32, 3) := by decide +kernel
theorem d5_41 : decode method_3_code 41 = .ok (.iconst 0, 1) := by decide +kernel
theorem d5_17 : decode method_3_code 17 = .ok (.aload_n 0, 1) := by decide +kernel
theorem d5_18 : decode method_3_code 18 = .ok (.iconst 1, 1) := by decide +kernel
theorem d5_19 : decode method_3_code 19 = .ok (.baload, 1) := by decide +kernel
theorem d5_20 : decode method_3_code 20 = .ok (.iload_n 3, 1) := by decide +kernel
theorem d5_21 : decode method_3_code 21 = .ok (.if_icmp .ne 20, 3) := by decide +kernel
theorem d5_29 : decode method_3_code 29 = .ok (.aload_n 0, 1) := by decide +kernel
theorem d5_30 : decode method_3_code 30 = .ok (.iconst 2, 1) := by decide +kernel
theorem d5_31 : decode method_3_code 31 = .ok (.baload, 1) := by decide +kernel
theorem d5_32 : decode method_3_code 32 = .ok (.iload 4, 2) := by decide +kernel
theorem d5_34 : decode method_3_code 34 = .ok (.if_icmp .ne 7, 3) := by decide +kernel
theorem pd_3 : parseMethodDescriptor "(Ljava/lang/String;Ljava/lang/String;[B)V" = some ⟨[(.object "java/lang/String"), (.object "java/lang/String"), (.array .byte)], none⟩ := by decide +kernel
theorem pd_2 : parseMethodDescriptor "()[B" = some ⟨[], some (.array .byte)⟩ := by decide +kernel
theorem pd_4 : parseMethodDescriptor "([BIBBB)Z" = some ⟨[(.array .byte), .int, .byte, .byte, .byte], some .boolean⟩ := by decide +kernel
theorem ef_2 (a1 : Addr) (m : MethodId) : entryFrame m #[(.ref a1)] 1 = mkF m 0 #[.val (.ref a1)] [] := by first | (simp [entryFrame, mkF, argsToLocals, Value.category]; done) | rfl
def Q2 (Z : State) (a1 : Addr) (h0 : Heap) (n0 : Nat) (v : Option Value) (h : Heap) (L : List Loc) : Prop := v = none ∧ Fr n0 L ∧ h = h0
set_option maxRecDepth 65536 in
set_option maxHeartbeats 40000000 in
theorem rm2 (l : Launch) (Z : State) (a0 : Array Value) (hw : ∀ d ∈ tables_1, d.before a0 Z = true) (a1 : Addr) (h0 : Heap) (n0 : Nat) (Zs : n0 ≤ h0.size) :
    Met1 l Z (⟨"java/lang/Record", "<init>", "()V"⟩ : MethodName) jdk_30_method_1_code 1 none ({ frames := 1, cells := 0, slots := 0, locals := 12 } : Room) #[(.ref a1)] h0 (Q2 Z a1 h0 n0) := by
  refine own_met_of (plainFor_of_name pn_2) (ef_2 a1) ?_
  intro p e s m below meth c s₁ X hx hby hml hZ hown hnm hret hlk eT
  have hown : s.vm.findClass "java/lang/Record" = some m.cls := hown
  have N := Fr.nil n0
  refine own_aloadN X hx hby (.ref a1) d2_0 rfl rfl 1 rfl ?_
  refine own_initO X hx hby hZ hown (hw _ (List.mem_of_getElem? (i := 12) rfl)) (hw _ (List.mem_of_getElem? (i := 13) rfl)) (hw _ (List.mem_of_getElem? (i := 14) rfl)) eT (by rw [hml]; rfl) d2_1 (by decide) 0 rfl (by decide) 4 rfl ?_
  intro T1 X eT
  refine own_ret X hx hby hret hlk d2_4 (by decide) (by decide) ?_
  rw [eT]
  exact ⟨rfl, N, rfl⟩
theorem ef_1_0 (a1 : Addr) (a4 : Addr) (m : MethodId) : entryFrame m #[(.ref a1), .null, .null, (.ref a4)] 4 = mkF m 0 #[.val (.ref a1), .val .null, .val .null, .val (.ref a4)] [] := by first | (simp [entryFrame, mkF, argsToLocals, Value.category]; done) | rfl
def Q1_0 (Z : State) (a1 : Addr) (a4 : Addr) (ar_a4 : Nat → Int32) (h0 : Heap) (n0 : Nat) (v : Option Value) (h : Heap) (L : List Loc) : Prop := ∃ (b13 : Addr), v = none ∧ Fr n0 L ∧ Keep h0 h [a1] ∧ h0.size ≤ b13 ∧ Exa Z h a1 "com/example/inflight/inflight/AttributeValue" ∧ Fld Z h a1 "com/example/inflight/inflight/AttributeValue" "dataType" "Ljava/lang/String;" .null ∧ Fld Z h a1 "com/example/inflight/inflight/AttributeValue" "stringValue" "Ljava/lang/String;" .null ∧ Fld Z h a1 "com/example/inflight/inflight/AttributeValue" "binaryValue" "[B" (.ref b13) ∧ Afi Z h b13 .byte 0 ar_a4 ∧ Exa Z h b13 "[B"
set_option maxRecDepth 65536 in
set_option maxHeartbeats 40000000 in
theorem rm1_0 (l : Launch) (Z : State) (a0 : Array Value) (hw : ∀ d ∈ tables_1, d.before a0 Z = true) (a1 : Addr) (a4 : Addr) (ar_a4 : Nat → Int32) (h0 : Heap) (n0 : Nat) (Zs : n0 ≤ h0.size) (A_a4 : Afi Z h0 a4 .byte 0 ar_a4) (E_a4 : Exa Z h0 a4 "[B") (E_a1 : Exa Z h0 a1 "com/example/inflight/inflight/AttributeValue") (F_dataType_a1 : Fld Z h0 a1 "com/example/inflight/inflight/AttributeValue" "dataType" "Ljava/lang/String;" .null) (F_stringValue_a1 : Fld Z h0 a1 "com/example/inflight/inflight/AttributeValue" "stringValue" "Ljava/lang/String;" .null) (F_binaryValue_a1 : Fld Z h0 a1 "com/example/inflight/inflight/AttributeValue" "binaryValue" "[B" .null) (g_a1 : n0 ≤ a1) :
    Met1 l Z (⟨"com/example/inflight/inflight/AttributeValue", "<init>", "(Ljava/lang/String;Ljava/lang/String;[B)V"⟩ : MethodName) prog_3_method_1_code 4 none ({ frames := 2, cells := 1, slots := 0, locals := 24 } : Room) #[(.ref a1), .null, .null, (.ref a4)] h0 (Q1_0 Z a1 a4 ar_a4 h0 n0) := by
  refine own_met_of (plainFor_of_name pn_1) (ef_1_0 a1 a4) ?_
  intro p e s m below meth c s₁ X hx hby hml hZ hown hnm hret hlk eT
  have hown : s.vm.findClass "com/example/inflight/inflight/AttributeValue" = some m.cls := hown
  have N := Fr.nil n0
  have K := Keep.refl h0 [a1]
  have ne_a4_a1 : a4 ≠ a1 := ne_exa E_a4 E_a1 (by decide)
  refine own_aloadN X hx hby (.ref a1) d1_0 rfl rfl 1 rfl ?_
  refine own_callC X hx hby hZ (st := []) [] rfl rfl hown (hw _ (List.mem_of_getElem? (i := 7) rfl)) (hw _ (List.mem_of_getElem? (i := 8) rfl)) (hw _ (List.mem_of_getElem? (i := 10) rfl)) (hw _ (List.mem_of_getElem? (i := 11) rfl)) (by decide) d1_1 (rm2 l Z a0 hw a1 h0 n0 Zs ) eT pd_1 rfl (by rw [hml]; rfl) (by decide) 0 rfl (by decide) (by decide) (by decide) 4 rfl ?_
  intro T1 L9 v9 X hQ
  obtain ⟨rfl, N9, eT⟩ := hQ
  have N := Fr.app N N9
  show Go p e below _ T1 (mkF m 4 #[.val (.ref a1), .val .null, .val .null, .val (.ref a4)] [])
  refine own_aloadN X hx hby (.ref a4) d1_4 rfl rfl 5 rfl ?_
  refine own_ifnonnullY X hx hby d1_5 12 (by decide) ?_
  refine own_aloadN X hx hby (.ref a4) d1_12 rfl rfl 13 rfl ?_
  refine own_clone X hx hby hZ hown (hw _ (List.mem_of_getElem? (i := 15) rfl)) (hw _ (List.mem_of_getElem? (i := 16) rfl)) (hw _ (List.mem_of_getElem? (i := 20) rfl)) (hw _ (List.mem_of_getElem? (i := 18) rfl)) (hw _ (List.mem_of_getElem? (i := 19) rfl)) (hw _ (List.mem_of_getElem? (i := 21) rfl)) eT A_a4 E_a4 (by rw [hml]; rfl) d1_13 (by decide) 0 rfl (by decide) (cap := 0) (by decide) (by decide) (by decide) 16 rfl ?_
  intro T13 h13 b13 gb13 X eT Ex A A2
  have g_b13 : n0 ≤ b13 := by rw [gb13]; exact Zs
  have sz_b13 : h0.size ≤ b13 := by rw [gb13]; exact K.1
  have ne_a4_b13 : a4 ≠ b13 := Nat.ne_of_lt (by rw [gb13]; exact A_a4.lt)
  have ne_a1_b13 : a1 ≠ b13 := Nat.ne_of_lt (by rw [gb13]; exact E_a1.lt)
  have A_a4 := A_a4.ext Ex
  have E_a4 := E_a4.ext Ex
  have E_a1 := E_a1.ext Ex
  have F_dataType_a1 := F_dataType_a1.ext Ex
  have F_stringValue_a1 := F_stringValue_a1.ext Ex
  have F_binaryValue_a1 := F_binaryValue_a1.ext Ex
  have A_b13 : Afi Z h13 b13 .byte 0 ar_a4 := A
  have E_b13 := A2
  have K := K.ext Ex
  have Zs := Nat.le_trans Zs Ex.1
  refine own_castY X hx hby hZ hown (hw _ (List.mem_of_getElem? (i := 22) rfl)) eT (Ins.self E_b13) d1_16 19 rfl ?_
  intro T16 X eT
  refine own_astoreN X hx hby d1_19 rfl (l' := #[.val (.ref a1), .val .null, .val .null, .val (.ref b13)]) rfl 20 rfl ?_
  refine own_aloadN X hx hby (.ref a1) d1_20 rfl rfl 21 rfl ?_
  refine own_aloadN X hx hby .null d1_21 rfl rfl 22 rfl ?_
  refine own_putF X hx hby hZ hown (host := "") (Or.inl (hw _ (List.mem_of_getElem? (i := 24) rfl))) Via.refl eT F_dataType_a1 E_a1 (Or.inr ⟨(hw _ (List.mem_of_getElem? (i := 25) rfl)), rfl, hnm⟩) (hw _ (List.mem_of_getElem? (i := 2) rfl)) (ty := (.object "java/lang/String")) (by decide) rfl rfl d1_22 25 rfl ?_
  intro T22 h22 X eT W
  have A_a4 := A_a4.other W ne_a4_a1
  have E_a4 := E_a4.wr W
  have E_a1 := E_a1.wr W
  have F_dataType_a1 := F_dataType_a1.same W
  have F_stringValue_a1 := F_stringValue_a1.other W (Or.inr (slot_ne (Or.inr (hw _ (List.mem_of_getElem? (i := 27) rfl))) (Or.inr (hw _ (List.mem_of_getElem? (i := 25) rfl))) (by decide) (t := (.object "java/lang/String")) (t' := (.object "java/lang/String")) (by decide) (by decide)))
  have F_binaryValue_a1 := F_binaryValue_a1.other W (Or.inr (slot_ne (Or.inr (hw _ (List.mem_of_getElem? (i := 29) rfl))) (Or.inr (hw _ (List.mem_of_getElem? (i := 25) rfl))) (by decide) (t := (.array .byte)) (t' := (.object "java/lang/String")) (by decide) (by decide)))
  have A_b13 := A_b13.other W (Ne.symm ne_a1_b13)
  have E_b13 := E_b13.wr W
  have N := Fr.snoc X N g_a1
  have K := K.wr W (Or.inl (List.mem_of_getElem? (i := 0) rfl))
  have Zs := Nat.le_trans Zs (Keep.of_wr W).1
  refine own_aloadN X hx hby (.ref a1) d1_25 rfl rfl 26 rfl ?_
  refine own_aloadN X hx hby .null d1_26 rfl rfl 27 rfl ?_
  refine own_putF X hx hby hZ hown (host := "") (Or.inl (hw _ (List.mem_of_getElem? (i := 26) rfl))) Via.refl eT F_stringValue_a1 E_a1 (Or.inr ⟨(hw _ (List.mem_of_getElem? (i := 27) rfl)), rfl, hnm⟩) (hw _ (List.mem_of_getElem? (i := 2) rfl)) (ty := (.object "java/lang/String")) (by decide) rfl rfl d1_27 30 rfl ?_
  intro T27 h27 X eT W
  have A_a4 := A_a4.other W ne_a4_a1
  have E_a4 := E_a4.wr W
  have E_a1 := E_a1.wr W
  have F_dataType_a1 := F_dataType_a1.other W (Or.inr (slot_ne (Or.inr (hw _ (List.mem_of_getElem? (i := 25) rfl))) (Or.inr (hw _ (List.mem_of_getElem? (i := 27) rfl))) (by decide) (t := (.object "java/lang/String")) (t' := (.object "java/lang/String")) (by decide) (by decide)))
  have F_stringValue_a1 := F_stringValue_a1.same W
  have F_binaryValue_a1 := F_binaryValue_a1.other W (Or.inr (slot_ne (Or.inr (hw _ (List.mem_of_getElem? (i := 29) rfl))) (Or.inr (hw _ (List.mem_of_getElem? (i := 27) rfl))) (by decide) (t := (.array .byte)) (t' := (.object "java/lang/String")) (by decide) (by decide)))
  have A_b13 := A_b13.other W (Ne.symm ne_a1_b13)
  have E_b13 := E_b13.wr W
  have N := Fr.snoc X N g_a1
  have K := K.wr W (Or.inl (List.mem_of_getElem? (i := 0) rfl))
  have Zs := Nat.le_trans Zs (Keep.of_wr W).1
  refine own_aloadN X hx hby (.ref a1) d1_30 rfl rfl 31 rfl ?_
  refine own_aloadN X hx hby (.ref b13) d1_31 rfl rfl 32 rfl ?_
  refine own_putF X hx hby hZ hown (host := "") (Or.inl (hw _ (List.mem_of_getElem? (i := 28) rfl))) Via.refl eT F_binaryValue_a1 E_a1 (Or.inr ⟨(hw _ (List.mem_of_getElem? (i := 29) rfl)), rfl, hnm⟩) (hw _ (List.mem_of_getElem? (i := 2) rfl)) (ty := (.array .byte)) (by decide) rfl rfl d1_32 35 rfl ?_
  intro T32 h32 X eT W
  have A_a4 := A_a4.other W ne_a4_a1
  have E_a4 := E_a4.wr W
  have E_a1 := E_a1.wr W
  have F_dataType_a1 := F_dataType_a1.other W (Or.inr (slot_ne (Or.inr (hw _ (List.mem_of_getElem? (i := 25) rfl))) (Or.inr (hw _ (List.mem_of_getElem? (i := 29) rfl))) (by decide) (t := (.object "java/lang/String")) (t' := (.array .byte)) (by decide) (by decide)))
  have F_stringValue_a1 := F_stringValue_a1.other W (Or.inr (slot_ne (Or.inr (hw _ (List.mem_of_getElem? (i := 27) rfl))) (Or.inr (hw _ (List.mem_of_getElem? (i := 29) rfl))) (by decide) (t := (.object "java/lang/String")) (t' := (.array .byte)) (by decide) (by decide)))
  have F_binaryValue_a1 := F_binaryValue_a1.same W
  have A_b13 := A_b13.other W (Ne.symm ne_a1_b13)
  have E_b13 := E_b13.wr W
  have N := Fr.snoc X N g_a1
  have K := K.wr W (Or.inl (List.mem_of_getElem? (i := 0) rfl))
  have Zs := Nat.le_trans Zs (Keep.of_wr W).1
  refine own_ret X hx hby hret hlk d1_35 (by decide) (by decide) ?_
  rw [eT]
  exact ⟨b13, rfl, N, K, sz_b13, E_a1, F_dataType_a1, F_stringValue_a1, F_binaryValue_a1, A_b13, E_b13⟩
theorem ef_1_1 (a1 : Addr) (a4 : Addr) (m : MethodId) : entryFrame m #[(.ref a1), .null, .null, (.ref a4)] 4 = mkF m 0 #[.val (.ref a1), .val .null, .val .null, .val (.ref a4)] [] := by first | (simp [entryFrame, mkF, argsToLocals, Value.category]; done) | rfl
def Q1_1 (Z : State) (a1 : Addr) (a4 : Addr) (ar_a4 : Nat → Int32) (h0 : Heap) (n0 : Nat) (v : Option Value) (h : Heap) (L : List Loc) : Prop := ∃ (b13 : Addr), v = none ∧ Fr n0 L ∧ Keep h0 h [a1] ∧ h0.size ≤ b13 ∧ Exa Z h a1 "com/example/inflight/inflight/AttributeValue" ∧ Fld Z h a1 "com/example/inflight/inflight/AttributeValue" "dataType" "Ljava/lang/String;" .null ∧ Fld Z h a1 "com/example/inflight/inflight/AttributeValue" "stringValue" "Ljava/lang/String;" .null ∧ Fld Z h a1 "com/example/inflight/inflight/AttributeValue" "binaryValue" "[B" (.ref b13) ∧ Afi Z h b13 .byte 1 ar_a4 ∧ Exa Z h b13 "[B"
set_option maxRecDepth 65536 in
set_option maxHeartbeats 40000000 in
theorem rm1_1 (l : Launch) (Z : State) (a0 : Array Value) (hw : ∀ d ∈ tables_1, d.before a0 Z = true) (a1 : Addr) (a4 : Addr) (ar_a4 : Nat → Int32) (h0 : Heap) (n0 : Nat) (Zs : n0 ≤ h0.size) (A_a4 : Afi Z h0 a4 .byte 1 ar_a4) (E_a4 : Exa Z h0 a4 "[B") (E_a1 : Exa Z h0 a1 "com/example/inflight/inflight/AttributeValue") (F_dataType_a1 : Fld Z h0 a1 "com/example/inflight/inflight/AttributeValue" "dataType" "Ljava/lang/String;" .null) (F_stringValue_a1 : Fld Z h0 a1 "com/example/inflight/inflight/AttributeValue" "stringValue" "Ljava/lang/String;" .null) (F_binaryValue_a1 : Fld Z h0 a1 "com/example/inflight/inflight/AttributeValue" "binaryValue" "[B" .null) (g_a1 : n0 ≤ a1) :
    Met1 l Z (⟨"com/example/inflight/inflight/AttributeValue", "<init>", "(Ljava/lang/String;Ljava/lang/String;[B)V"⟩ : MethodName) prog_3_method_1_code 4 none ({ frames := 2, cells := 1, slots := 1, locals := 24 } : Room) #[(.ref a1), .null, .null, (.ref a4)] h0 (Q1_1 Z a1 a4 ar_a4 h0 n0) := by
  refine own_met_of (plainFor_of_name pn_1) (ef_1_1 a1 a4) ?_
  intro p e s m below meth c s₁ X hx hby hml hZ hown hnm hret hlk eT
  have hown : s.vm.findClass "com/example/inflight/inflight/AttributeValue" = some m.cls := hown
  have N := Fr.nil n0
  have K := Keep.refl h0 [a1]
  have ne_a4_a1 : a4 ≠ a1 := ne_exa E_a4 E_a1 (by decide)
  refine own_aloadN X hx hby (.ref a1) d1_0 rfl rfl 1 rfl ?_
  refine own_callC X hx hby hZ (st := []) [] rfl rfl hown (hw _ (List.mem_of_getElem? (i := 7) rfl)) (hw _ (List.mem_of_getElem? (i := 8) rfl)) (hw _ (List.mem_of_getElem? (i := 10) rfl)) (hw _ (List.mem_of_getElem? (i := 11) rfl)) (by decide) d1_1 (rm2 l Z a0 hw a1 h0 n0 Zs ) eT pd_1 rfl (by rw [hml]; rfl) (by decide) 0 rfl (by decide) (by decide) (by decide) 4 rfl ?_
  intro T1 L9 v9 X hQ
  obtain ⟨rfl, N9, eT⟩ := hQ
  have N := Fr.app N N9
  show Go p e below _ T1 (mkF m 4 #[.val (.ref a1), .val .null, .val .null, .val (.ref a4)] [])
  refine own_aloadN X hx hby (.ref a4) d1_4 rfl rfl 5 rfl ?_
  refine own_ifnonnullY X hx hby d1_5 12 (by decide) ?_
  refine own_aloadN X hx hby (.ref a4) d1_12 rfl rfl 13 rfl ?_
  refine own_clone X hx hby hZ hown (hw _ (List.mem_of_getElem? (i := 15) rfl)) (hw _ (List.mem_of_getElem? (i := 16) rfl)) (hw _ (List.mem_of_getElem? (i := 20) rfl)) (hw _ (List.mem_of_getElem? (i := 18) rfl)) (hw _ (List.mem_of_getElem? (i := 19) rfl)) (hw _ (List.mem_of_getElem? (i := 21) rfl)) eT A_a4 E_a4 (by rw [hml]; rfl) d1_13 (by decide) 0 rfl (by decide) (cap := 1) (by decide) (by decide) (by decide) 16 rfl ?_
  intro T13 h13 b13 gb13 X eT Ex A A2
  have g_b13 : n0 ≤ b13 := by rw [gb13]; exact Zs
  have sz_b13 : h0.size ≤ b13 := by rw [gb13]; exact K.1
  have ne_a4_b13 : a4 ≠ b13 := Nat.ne_of_lt (by rw [gb13]; exact A_a4.lt)
  have ne_a1_b13 : a1 ≠ b13 := Nat.ne_of_lt (by rw [gb13]; exact E_a1.lt)
  have A_a4 := A_a4.ext Ex
  have E_a4 := E_a4.ext Ex
  have E_a1 := E_a1.ext Ex
  have F_dataType_a1 := F_dataType_a1.ext Ex
  have F_stringValue_a1 := F_stringValue_a1.ext Ex
  have F_binaryValue_a1 := F_binaryValue_a1.ext Ex
  have A_b13 : Afi Z h13 b13 .byte 1 ar_a4 := A
  have E_b13 := A2
  have K := K.ext Ex
  have Zs := Nat.le_trans Zs Ex.1
  refine own_castY X hx hby hZ hown (hw _ (List.mem_of_getElem? (i := 22) rfl)) eT (Ins.self E_b13) d1_16 19 rfl ?_
  intro T16 X eT
  refine own_astoreN X hx hby d1_19 rfl (l' := #[.val (.ref a1), .val .null, .val .null, .val (.ref b13)]) rfl 20 rfl ?_
  refine own_aloadN X hx hby (.ref a1) d1_20 rfl rfl 21 rfl ?_
  refine own_aloadN X hx hby .null d1_21 rfl rfl 22 rfl ?_
  refine own_putF X hx hby hZ hown (host := "") (Or.inl (hw _ (List.mem_of_getElem? (i := 24) rfl))) Via.refl eT F_dataType_a1 E_a1 (Or.inr ⟨(hw _ (List.mem_of_getElem? (i := 25) rfl)), rfl, hnm⟩) (hw _ (List.mem_of_getElem? (i := 2) rfl)) (ty := (.object "java/lang/String")) (by decide) rfl rfl d1_22 25 rfl ?_
  intro T22 h22 X eT W
  have A_a4 := A_a4.other W ne_a4_a1
  have E_a4 := E_a4.wr W
  have E_a1 := E_a1.wr W
  have F_dataType_a1 := F_dataType_a1.same W
  have F_stringValue_a1 := F_stringValue_a1.other W (Or.inr (slot_ne (Or.inr (hw _ (List.mem_of_getElem? (i := 27) rfl))) (Or.inr (hw _ (List.mem_of_getElem? (i := 25) rfl))) (by decide) (t := (.object "java/lang/String")) (t' := (.object "java/lang/String")) (by decide) (by decide)))
  have F_binaryValue_a1 := F_binaryValue_a1.other W (Or.inr (slot_ne (Or.inr (hw _ (List.mem_of_getElem? (i := 29) rfl))) (Or.inr (hw _ (List.mem_of_getElem? (i := 25) rfl))) (by decide) (t := (.array .byte)) (t' := (.object "java/lang/String")) (by decide) (by decide)))
  have A_b13 := A_b13.other W (Ne.symm ne_a1_b13)
  have E_b13 := E_b13.wr W
  have N := Fr.snoc X N g_a1
  have K := K.wr W (Or.inl (List.mem_of_getElem? (i := 0) rfl))
  have Zs := Nat.le_trans Zs (Keep.of_wr W).1
  refine own_aloadN X hx hby (.ref a1) d1_25 rfl rfl 26 rfl ?_
  refine own_aloadN X hx hby .null d1_26 rfl rfl 27 rfl ?_
  refine own_putF X hx hby hZ hown (host := "") (Or.inl (hw _ (List.mem_of_getElem? (i := 26) rfl))) Via.refl eT F_stringValue_a1 E_a1 (Or.inr ⟨(hw _ (List.mem_of_getElem? (i := 27) rfl)), rfl, hnm⟩) (hw _ (List.mem_of_getElem? (i := 2) rfl)) (ty := (.object "java/lang/String")) (by decide) rfl rfl d1_27 30 rfl ?_
  intro T27 h27 X eT W
  have A_a4 := A_a4.other W ne_a4_a1
  have E_a4 := E_a4.wr W
  have E_a1 := E_a1.wr W
  have F_dataType_a1 := F_dataType_a1.other W (Or.inr (slot_ne (Or.inr (hw _ (List.mem_of_getElem? (i := 25) rfl))) (Or.inr (hw _ (List.mem_of_getElem? (i := 27) rfl))) (by decide) (t := (.object "java/lang/String")) (t' := (.object "java/lang/String")) (by decide) (by decide)))
  have F_stringValue_a1 := F_stringValue_a1.same W
  have F_binaryValue_a1 := F_binaryValue_a1.other W (Or.inr (slot_ne (Or.inr (hw _ (List.mem_of_getElem? (i := 29) rfl))) (Or.inr (hw _ (List.mem_of_getElem? (i := 27) rfl))) (by decide) (t := (.array .byte)) (t' := (.object "java/lang/String")) (by decide) (by decide)))
  have A_b13 := A_b13.other W (Ne.symm ne_a1_b13)
  have E_b13 := E_b13.wr W
  have N := Fr.snoc X N g_a1
  have K := K.wr W (Or.inl (List.mem_of_getElem? (i := 0) rfl))
  have Zs := Nat.le_trans Zs (Keep.of_wr W).1
  refine own_aloadN X hx hby (.ref a1) d1_30 rfl rfl 31 rfl ?_
  refine own_aloadN X hx hby (.ref b13) d1_31 rfl rfl 32 rfl ?_
  refine own_putF X hx hby hZ hown (host := "") (Or.inl (hw _ (List.mem_of_getElem? (i := 28) rfl))) Via.refl eT F_binaryValue_a1 E_a1 (Or.inr ⟨(hw _ (List.mem_of_getElem? (i := 29) rfl)), rfl, hnm⟩) (hw _ (List.mem_of_getElem? (i := 2) rfl)) (ty := (.array .byte)) (by decide) rfl rfl d1_32 35 rfl ?_
  intro T32 h32 X eT W
  have A_a4 := A_a4.other W ne_a4_a1
  have E_a4 := E_a4.wr W
  have E_a1 := E_a1.wr W
  have F_dataType_a1 := F_dataType_a1.other W (Or.inr (slot_ne (Or.inr (hw _ (List.mem_of_getElem? (i := 25) rfl))) (Or.inr (hw _ (List.mem_of_getElem? (i := 29) rfl))) (by decide) (t := (.object "java/lang/String")) (t' := (.array .byte)) (by decide) (by decide)))
  have F_stringValue_a1 := F_stringValue_a1.other W (Or.inr (slot_ne (Or.inr (hw _ (List.mem_of_getElem? (i := 27) rfl))) (Or.inr (hw _ (List.mem_of_getElem? (i := 29) rfl))) (by decide) (t := (.object "java/lang/String")) (t' := (.array .byte)) (by decide) (by decide)))
  have F_binaryValue_a1 := F_binaryValue_a1.same W
  have A_b13 := A_b13.other W (Ne.symm ne_a1_b13)
  have E_b13 := E_b13.wr W
  have N := Fr.snoc X N g_a1
  have K := K.wr W (Or.inl (List.mem_of_getElem? (i := 0) rfl))
  have Zs := Nat.le_trans Zs (Keep.of_wr W).1
  refine own_ret X hx hby hret hlk d1_35 (by decide) (by decide) ?_
  rw [eT]
  exact ⟨b13, rfl, N, K, sz_b13, E_a1, F_dataType_a1, F_stringValue_a1, F_binaryValue_a1, A_b13, E_b13⟩
theorem ef_1_2 (a1 : Addr) (a4 : Addr) (m : MethodId) : entryFrame m #[(.ref a1), .null, .null, (.ref a4)] 4 = mkF m 0 #[.val (.ref a1), .val .null, .val .null, .val (.ref a4)] [] := by first | (simp [entryFrame, mkF, argsToLocals, Value.category]; done) | rfl
def Q1_2 (Z : State) (a1 : Addr) (a4 : Addr) (ar_a4 : Nat → Int32) (h0 : Heap) (n0 : Nat) (v : Option Value) (h : Heap) (L : List Loc) : Prop := ∃ (b13 : Addr), v = none ∧ Fr n0 L ∧ Keep h0 h [a1] ∧ h0.size ≤ b13 ∧ Exa Z h a1 "com/example/inflight/inflight/AttributeValue" ∧ Fld Z h a1 "com/example/inflight/inflight/AttributeValue" "dataType" "Ljava/lang/String;" .null ∧ Fld Z h a1 "com/example/inflight/inflight/AttributeValue" "stringValue" "Ljava/lang/String;" .null ∧ Fld Z h a1 "com/example/inflight/inflight/AttributeValue" "binaryValue" "[B" (.ref b13) ∧ Afi Z h b13 .byte 2 ar_a4 ∧ Exa Z h b13 "[B"
set_option maxRecDepth 65536 in
set_option maxHeartbeats 40000000 in
theorem rm1_2 (l : Launch) (Z : State) (a0 : Array Value) (hw : ∀ d ∈ tables_1, d.before a0 Z = true) (a1 : Addr) (a4 : Addr) (ar_a4 : Nat → Int32) (h0 : Heap) (n0 : Nat) (Zs : n0 ≤ h0.size) (A_a4 : Afi Z h0 a4 .byte 2 ar_a4) (E_a4 : Exa Z h0 a4 "[B") (E_a1 : Exa Z h0 a1 "com/example/inflight/inflight/AttributeValue") (F_dataType_a1 : Fld Z h0 a1 "com/example/inflight/inflight/AttributeValue" "dataType" "Ljava/lang/String;" .null) (F_stringValue_a1 : Fld Z h0 a1 "com/example/inflight/inflight/AttributeValue" "stringValue" "Ljava/lang/String;" .null) (F_binaryValue_a1 : Fld Z h0 a1 "com/example/inflight/inflight/AttributeValue" "binaryValue" "[B" .null) (g_a1 : n0 ≤ a1) :
    Met1 l Z (⟨"com/example/inflight/inflight/AttributeValue", "<init>", "(Ljava/lang/String;Ljava/lang/String;[B)V"⟩ : MethodName) prog_3_method_1_code 4 none ({ frames := 2, cells := 1, slots := 2, locals := 24 } : Room) #[(.ref a1), .null, .null, (.ref a4)] h0 (Q1_2 Z a1 a4 ar_a4 h0 n0) := by
  refine own_met_of (plainFor_of_name pn_1) (ef_1_2 a1 a4) ?_
  intro p e s m below meth c s₁ X hx hby hml hZ hown hnm hret hlk eT
  have hown : s.vm.findClass "com/example/inflight/inflight/AttributeValue" = some m.cls := hown
  have N := Fr.nil n0
  have K := Keep.refl h0 [a1]
  have ne_a4_a1 : a4 ≠ a1 := ne_exa E_a4 E_a1 (by decide)
  refine own_aloadN X hx hby (.ref a1) d1_0 rfl rfl 1 rfl ?_
  refine own_callC X hx hby hZ (st := []) [] rfl rfl hown (hw _ (List.mem_of_getElem? (i := 7) rfl)) (hw _ (List.mem_of_getElem? (i := 8) rfl)) (hw _ (List.mem_of_getElem? (i := 10) rfl)) (hw _ (List.mem_of_getElem? (i := 11) rfl)) (by decide) d1_1 (rm2 l Z a0 hw a1 h0 n0 Zs ) eT pd_1 rfl (by rw [hml]; rfl) (by decide) 0 rfl (by decide) (by decide) (by decide) 4 rfl ?_
  intro T1 L9 v9 X hQ
  obtain ⟨rfl, N9, eT⟩ := hQ
  have N := Fr.app N N9
  show Go p e below _ T1 (mkF m 4 #[.val (.ref a1), .val .null, .val .null, .val (.ref a4)] [])
  refine own_aloadN X hx hby (.ref a4) d1_4 rfl rfl 5 rfl ?_
  refine own_ifnonnullY X hx hby d1_5 12 (by decide) ?_
  refine own_aloadN X hx hby (.ref a4) d1_12 rfl rfl 13 rfl ?_
  refine own_clone X hx hby hZ hown (hw _ (List.mem_of_getElem? (i := 15) rfl)) (hw _ (List.mem_of_getElem? (i := 16) rfl)) (hw _ (List.mem_of_getElem? (i := 20) rfl)) (hw _ (List.mem_of_getElem? (i := 18) rfl)) (hw _ (List.mem_of_getElem? (i := 19) rfl)) (hw _ (List.mem_of_getElem? (i := 21) rfl)) eT A_a4 E_a4 (by rw [hml]; rfl) d1_13 (by decide) 0 rfl (by decide) (cap := 2) (by decide) (by decide) (by decide) 16 rfl ?_
  intro T13 h13 b13 gb13 X eT Ex A A2
  have g_b13 : n0 ≤ b13 := by rw [gb13]; exact Zs
  have sz_b13 : h0.size ≤ b13 := by rw [gb13]; exact K.1
  have ne_a4_b13 : a4 ≠ b13 := Nat.ne_of_lt (by rw [gb13]; exact A_a4.lt)
  have ne_a1_b13 : a1 ≠ b13 := Nat.ne_of_lt (by rw [gb13]; exact E_a1.lt)
  have A_a4 := A_a4.ext Ex
  have E_a4 := E_a4.ext Ex
  have E_a1 := E_a1.ext Ex
  have F_dataType_a1 := F_dataType_a1.ext Ex
  have F_stringValue_a1 := F_stringValue_a1.ext Ex
  have F_binaryValue_a1 := F_binaryValue_a1.ext Ex
  have A_b13 : Afi Z h13 b13 .byte 2 ar_a4 := A
  have E_b13 := A2
  have K := K.ext Ex
  have Zs := Nat.le_trans Zs Ex.1
  refine own_castY X hx hby hZ hown (hw _ (List.mem_of_getElem? (i := 22) rfl)) eT (Ins.self E_b13) d1_16 19 rfl ?_
  intro T16 X eT
  refine own_astoreN X hx hby d1_19 rfl (l' := #[.val (.ref a1), .val .null, .val .null, .val (.ref b13)]) rfl 20 rfl ?_
  refine own_aloadN X hx hby (.ref a1) d1_20 rfl rfl 21 rfl ?_
  refine own_aloadN X hx hby .null d1_21 rfl rfl 22 rfl ?_
  refine own_putF X hx hby hZ hown (host := "") (Or.inl (hw _ (List.mem_of_getElem? (i := 24) rfl))) Via.refl eT F_dataType_a1 E_a1 (Or.inr ⟨(hw _ (List.mem_of_getElem? (i := 25) rfl)), rfl, hnm⟩) (hw _ (List.mem_of_getElem? (i := 2) rfl)) (ty := (.object "java/lang/String")) (by decide) rfl rfl d1_22 25 rfl ?_
  intro T22 h22 X eT W
  have A_a4 := A_a4.other W ne_a4_a1
  have E_a4 := E_a4.wr W
  have E_a1 := E_a1.wr W
  have F_dataType_a1 := F_dataType_a1.same W
  have F_stringValue_a1 := F_stringValue_a1.other W (Or.inr (slot_ne (Or.inr (hw _ (List.mem_of_getElem? (i := 27) rfl))) (Or.inr (hw _ (List.mem_of_getElem? (i := 25) rfl))) (by decide) (t := (.object "java/lang/String")) (t' := (.object "java/lang/String")) (by decide) (by decide)))
  have F_binaryValue_a1 := F_binaryValue_a1.other W (Or.inr (slot_ne (Or.inr (hw _ (List.mem_of_getElem? (i := 29) rfl))) (Or.inr (hw _ (List.mem_of_getElem? (i := 25) rfl))) (by decide) (t := (.array .byte)) (t' := (.object "java/lang/String")) (by decide) (by decide)))
  have A_b13 := A_b13.other W (Ne.symm ne_a1_b13)
  have E_b13 := E_b13.wr W
  have N := Fr.snoc X N g_a1
  have K := K.wr W (Or.inl (List.mem_of_getElem? (i := 0) rfl))
  have Zs := Nat.le_trans Zs (Keep.of_wr W).1
  refine own_aloadN X hx hby (.ref a1) d1_25 rfl rfl 26 rfl ?_
  refine own_aloadN X hx hby .null d1_26 rfl rfl 27 rfl ?_
  refine own_putF X hx hby hZ hown (host := "") (Or.inl (hw _ (List.mem_of_getElem? (i := 26) rfl))) Via.refl eT F_stringValue_a1 E_a1 (Or.inr ⟨(hw _ (List.mem_of_getElem? (i := 27) rfl)), rfl, hnm⟩) (hw _ (List.mem_of_getElem? (i := 2) rfl)) (ty := (.object "java/lang/String")) (by decide) rfl rfl d1_27 30 rfl ?_
  intro T27 h27 X eT W
  have A_a4 := A_a4.other W ne_a4_a1
  have E_a4 := E_a4.wr W
  have E_a1 := E_a1.wr W
  have F_dataType_a1 := F_dataType_a1.other W (Or.inr (slot_ne (Or.inr (hw _ (List.mem_of_getElem? (i := 25) rfl))) (Or.inr (hw _ (List.mem_of_getElem? (i := 27) rfl))) (by decide) (t := (.object "java/lang/String")) (t' := (.object "java/lang/String")) (by decide) (by decide)))
  have F_stringValue_a1 := F_stringValue_a1.same W
  have F_binaryValue_a1 := F_binaryValue_a1.other W (Or.inr (slot_ne (Or.inr (hw _ (List.mem_of_getElem? (i := 29) rfl))) (Or.inr (hw _ (List.mem_of_getElem? (i := 27) rfl))) (by decide) (t := (.array .byte)) (t' := (.object "java/lang/String")) (by decide) (by decide)))
  have A_b13 := A_b13.other W (Ne.symm ne_a1_b13)
  have E_b13 := E_b13.wr W
  have N := Fr.snoc X N g_a1
  have K := K.wr W (Or.inl (List.mem_of_getElem? (i := 0) rfl))
  have Zs := Nat.le_trans Zs (Keep.of_wr W).1
  refine own_aloadN X hx hby (.ref a1) d1_30 rfl rfl 31 rfl ?_
  refine own_aloadN X hx hby (.ref b13) d1_31 rfl rfl 32 rfl ?_
  refine own_putF X hx hby hZ hown (host := "") (Or.inl (hw _ (List.mem_of_getElem? (i := 28) rfl))) Via.refl eT F_binaryValue_a1 E_a1 (Or.inr ⟨(hw _ (List.mem_of_getElem? (i := 29) rfl)), rfl, hnm⟩) (hw _ (List.mem_of_getElem? (i := 2) rfl)) (ty := (.array .byte)) (by decide) rfl rfl d1_32 35 rfl ?_
  intro T32 h32 X eT W
  have A_a4 := A_a4.other W ne_a4_a1
  have E_a4 := E_a4.wr W
  have E_a1 := E_a1.wr W
  have F_dataType_a1 := F_dataType_a1.other W (Or.inr (slot_ne (Or.inr (hw _ (List.mem_of_getElem? (i := 25) rfl))) (Or.inr (hw _ (List.mem_of_getElem? (i := 29) rfl))) (by decide) (t := (.object "java/lang/String")) (t' := (.array .byte)) (by decide) (by decide)))
  have F_stringValue_a1 := F_stringValue_a1.other W (Or.inr (slot_ne (Or.inr (hw _ (List.mem_of_getElem? (i := 27) rfl))) (Or.inr (hw _ (List.mem_of_getElem? (i := 29) rfl))) (by decide) (t := (.object "java/lang/String")) (t' := (.array .byte)) (by decide) (by decide)))
  have F_binaryValue_a1 := F_binaryValue_a1.same W
  have A_b13 := A_b13.other W (Ne.symm ne_a1_b13)
  have E_b13 := E_b13.wr W
  have N := Fr.snoc X N g_a1
  have K := K.wr W (Or.inl (List.mem_of_getElem? (i := 0) rfl))
  have Zs := Nat.le_trans Zs (Keep.of_wr W).1
  refine own_ret X hx hby hret hlk d1_35 (by decide) (by decide) ?_
  rw [eT]
  exact ⟨b13, rfl, N, K, sz_b13, E_a1, F_dataType_a1, F_stringValue_a1, F_binaryValue_a1, A_b13, E_b13⟩
theorem ef_1_3 (a1 : Addr) (a4 : Addr) (m : MethodId) : entryFrame m #[(.ref a1), .null, .null, (.ref a4)] 4 = mkF m 0 #[.val (.ref a1), .val .null, .val .null, .val (.ref a4)] [] := by first | (simp [entryFrame, mkF, argsToLocals, Value.category]; done) | rfl
def Q1_3 (Z : State) (a1 : Addr) (a4 : Addr) (ar_a4 : Nat → Int32) (h0 : Heap) (n0 : Nat) (v : Option Value) (h : Heap) (L : List Loc) : Prop := ∃ (b13 : Addr), v = none ∧ Fr n0 L ∧ Keep h0 h [a1] ∧ h0.size ≤ b13 ∧ Exa Z h a1 "com/example/inflight/inflight/AttributeValue" ∧ Fld Z h a1 "com/example/inflight/inflight/AttributeValue" "dataType" "Ljava/lang/String;" .null ∧ Fld Z h a1 "com/example/inflight/inflight/AttributeValue" "stringValue" "Ljava/lang/String;" .null ∧ Fld Z h a1 "com/example/inflight/inflight/AttributeValue" "binaryValue" "[B" (.ref b13) ∧ Afi Z h b13 .byte 3 ar_a4 ∧ Exa Z h b13 "[B"
set_option maxRecDepth 65536 in
set_option maxHeartbeats 40000000 in
theorem rm1_3 (l : Launch) (Z : State) (a0 : Array Value) (hw : ∀ d ∈ tables_1, d.before a0 Z = true) (a1 : Addr) (a4 : Addr) (ar_a4 : Nat → Int32) (h0 : Heap) (n0 : Nat) (Zs : n0 ≤ h0.size) (A_a4 : Afi Z h0 a4 .byte 3 ar_a4) (E_a4 : Exa Z h0 a4 "[B") (E_a1 : Exa Z h0 a1 "com/example/inflight/inflight/AttributeValue") (F_dataType_a1 : Fld Z h0 a1 "com/example/inflight/inflight/AttributeValue" "dataType" "Ljava/lang/String;" .null) (F_stringValue_a1 : Fld Z h0 a1 "com/example/inflight/inflight/AttributeValue" "stringValue" "Ljava/lang/String;" .null) (F_binaryValue_a1 : Fld Z h0 a1 "com/example/inflight/inflight/AttributeValue" "binaryValue" "[B" .null) (g_a1 : n0 ≤ a1) :
    Met1 l Z (⟨"com/example/inflight/inflight/AttributeValue", "<init>", "(Ljava/lang/String;Ljava/lang/String;[B)V"⟩ : MethodName) prog_3_method_1_code 4 none ({ frames := 2, cells := 1, slots := 3, locals := 24 } : Room) #[(.ref a1), .null, .null, (.ref a4)] h0 (Q1_3 Z a1 a4 ar_a4 h0 n0) := by
  refine own_met_of (plainFor_of_name pn_1) (ef_1_3 a1 a4) ?_
  intro p e s m below meth c s₁ X hx hby hml hZ hown hnm hret hlk eT
  have hown : s.vm.findClass "com/example/inflight/inflight/AttributeValue" = some m.cls := hown
  have N := Fr.nil n0
  have K := Keep.refl h0 [a1]
  have ne_a4_a1 : a4 ≠ a1 := ne_exa E_a4 E_a1 (by decide)
  refine own_aloadN X hx hby (.ref a1) d1_0 rfl rfl 1 rfl ?_
  refine own_callC X hx hby hZ (st := []) [] rfl rfl hown (hw _ (List.mem_of_getElem? (i := 7) rfl)) (hw _ (List.mem_of_getElem? (i := 8) rfl)) (hw _ (List.mem_of_getElem? (i := 10) rfl)) (hw _ (List.mem_of_getElem? (i := 11) rfl)) (by decide) d1_1 (rm2 l Z a0 hw a1 h0 n0 Zs ) eT pd_1 rfl (by rw [hml]; rfl) (by decide) 0 rfl (by decide) (by decide) (by decide) 4 rfl ?_
  intro T1 L9 v9 X hQ
  obtain ⟨rfl, N9, eT⟩ := hQ
  have N := Fr.app N N9
  show Go p e below _ T1 (mkF m 4 #[.val (.ref a1), .val .null, .val .null, .val (.ref a4)] [])
  refine own_aloadN X hx hby (.ref a4) d1_4 rfl rfl 5 rfl ?_
  refine own_ifnonnullY X hx hby d1_5 12 (by decide) ?_
  refine own_aloadN X hx hby (.ref a4) d1_12 rfl rfl 13 rfl ?_
  refine own_clone X hx hby hZ hown (hw _ (List.mem_of_getElem? (i := 15) rfl)) (hw _ (List.mem_of_getElem? (i := 16) rfl)) (hw _ (List.mem_of_getElem? (i := 20) rfl)) (hw _ (List.mem_of_getElem? (i := 18) rfl)) (hw _ (List.mem_of_getElem? (i := 19) rfl)) (hw _ (List.mem_of_getElem? (i := 21) rfl)) eT A_a4 E_a4 (by rw [hml]; rfl) d1_13 (by decide) 0 rfl (by decide) (cap := 3) (by decide) (by decide) (by decide) 16 rfl ?_
  intro T13 h13 b13 gb13 X eT Ex A A2
  have g_b13 : n0 ≤ b13 := by rw [gb13]; exact Zs
  have sz_b13 : h0.size ≤ b13 := by rw [gb13]; exact K.1
  have ne_a4_b13 : a4 ≠ b13 := Nat.ne_of_lt (by rw [gb13]; exact A_a4.lt)
  have ne_a1_b13 : a1 ≠ b13 := Nat.ne_of_lt (by rw [gb13]; exact E_a1.lt)
  have A_a4 := A_a4.ext Ex
  have E_a4 := E_a4.ext Ex
  have E_a1 := E_a1.ext Ex
  have F_dataType_a1 := F_dataType_a1.ext Ex
  have F_stringValue_a1 := F_stringValue_a1.ext Ex
  have F_binaryValue_a1 := F_binaryValue_a1.ext Ex
  have A_b13 : Afi Z h13 b13 .byte 3 ar_a4 := A
  have E_b13 := A2
  have K := K.ext Ex
  have Zs := Nat.le_trans Zs Ex.1
  refine own_castY X hx hby hZ hown (hw _ (List.mem_of_getElem? (i := 22) rfl)) eT (Ins.self E_b13) d1_16 19 rfl ?_
  intro T16 X eT
  refine own_astoreN X hx hby d1_19 rfl (l' := #[.val (.ref a1), .val .null, .val .null, .val (.ref b13)]) rfl 20 rfl ?_
  refine own_aloadN X hx hby (.ref a1) d1_20 rfl rfl 21 rfl ?_
  refine own_aloadN X hx hby .null d1_21 rfl rfl 22 rfl ?_
  refine own_putF X hx hby hZ hown (host := "") (Or.inl (hw _ (List.mem_of_getElem? (i := 24) rfl))) Via.refl eT F_dataType_a1 E_a1 (Or.inr ⟨(hw _ (List.mem_of_getElem? (i := 25) rfl)), rfl, hnm⟩) (hw _ (List.mem_of_getElem? (i := 2) rfl)) (ty := (.object "java/lang/String")) (by decide) rfl rfl d1_22 25 rfl ?_
  intro T22 h22 X eT W
  have A_a4 := A_a4.other W ne_a4_a1
  have E_a4 := E_a4.wr W
  have E_a1 := E_a1.wr W
  have F_dataType_a1 := F_dataType_a1.same W
  have F_stringValue_a1 := F_stringValue_a1.other W (Or.inr (slot_ne (Or.inr (hw _ (List.mem_of_getElem? (i := 27) rfl))) (Or.inr (hw _ (List.mem_of_getElem? (i := 25) rfl))) (by decide) (t := (.object "java/lang/String")) (t' := (.object "java/lang/String")) (by decide) (by decide)))
  have F_binaryValue_a1 := F_binaryValue_a1.other W (Or.inr (slot_ne (Or.inr (hw _ (List.mem_of_getElem? (i := 29) rfl))) (Or.inr (hw _ (List.mem_of_getElem? (i := 25) rfl))) (by decide) (t := (.array .byte)) (t' := (.object "java/lang/String")) (by decide) (by decide)))
  have A_b13 := A_b13.other W (Ne.symm ne_a1_b13)
  have E_b13 := E_b13.wr W
  have N := Fr.snoc X N g_a1
  have K := K.wr W (Or.inl (List.mem_of_getElem? (i := 0) rfl))
  have Zs := Nat.le_trans Zs (Keep.of_wr W).1
  refine own_aloadN X hx hby (.ref a1) d1_25 rfl rfl 26 rfl ?_
  refine own_aloadN X hx hby .null d1_26 rfl rfl 27 rfl ?_
  refine own_putF X hx hby hZ hown (host := "") (Or.inl (hw _ (List.mem_of_getElem? (i := 26) rfl))) Via.refl eT F_stringValue_a1 E_a1 (Or.inr ⟨(hw _ (List.mem_of_getElem? (i := 27) rfl)), rfl, hnm⟩) (hw _ (List.mem_of_getElem? (i := 2) rfl)) (ty := (.object "java/lang/String")) (by decide) rfl rfl d1_27 30 rfl ?_
  intro T27 h27 X eT W
  have A_a4 := A_a4.other W ne_a4_a1
  have E_a4 := E_a4.wr W
  have E_a1 := E_a1.wr W
  have F_dataType_a1 := F_dataType_a1.other W (Or.inr (slot_ne (Or.inr (hw _ (List.mem_of_getElem? (i := 25) rfl))) (Or.inr (hw _ (List.mem_of_getElem? (i := 27) rfl))) (by decide) (t := (.object "java/lang/String")) (t' := (.object "java/lang/String")) (by decide) (by decide)))
  have F_stringValue_a1 := F_stringValue_a1.same W
  have F_binaryValue_a1 := F_binaryValue_a1.other W (Or.inr (slot_ne (Or.inr (hw _ (List.mem_of_getElem? (i := 29) rfl))) (Or.inr (hw _ (List.mem_of_getElem? (i := 27) rfl))) (by decide) (t := (.array .byte)) (t' := (.object "java/lang/String")) (by decide) (by decide)))
  have A_b13 := A_b13.other W (Ne.symm ne_a1_b13)
  have E_b13 := E_b13.wr W
  have N := Fr.snoc X N g_a1
  have K := K.wr W (Or.inl (List.mem_of_getElem? (i := 0) rfl))
  have Zs := Nat.le_trans Zs (Keep.of_wr W).1
  refine own_aloadN X hx hby (.ref a1) d1_30 rfl rfl 31 rfl ?_
  refine own_aloadN X hx hby (.ref b13) d1_31 rfl rfl 32 rfl ?_
  refine own_putF X hx hby hZ hown (host := "") (Or.inl (hw _ (List.mem_of_getElem? (i := 28) rfl))) Via.refl eT F_binaryValue_a1 E_a1 (Or.inr ⟨(hw _ (List.mem_of_getElem? (i := 29) rfl)), rfl, hnm⟩) (hw _ (List.mem_of_getElem? (i := 2) rfl)) (ty := (.array .byte)) (by decide) rfl rfl d1_32 35 rfl ?_
  intro T32 h32 X eT W
  have A_a4 := A_a4.other W ne_a4_a1
  have E_a4 := E_a4.wr W
  have E_a1 := E_a1.wr W
  have F_dataType_a1 := F_dataType_a1.other W (Or.inr (slot_ne (Or.inr (hw _ (List.mem_of_getElem? (i := 25) rfl))) (Or.inr (hw _ (List.mem_of_getElem? (i := 29) rfl))) (by decide) (t := (.object "java/lang/String")) (t' := (.array .byte)) (by decide) (by decide)))
  have F_stringValue_a1 := F_stringValue_a1.other W (Or.inr (slot_ne (Or.inr (hw _ (List.mem_of_getElem? (i := 27) rfl))) (Or.inr (hw _ (List.mem_of_getElem? (i := 29) rfl))) (by decide) (t := (.object "java/lang/String")) (t' := (.array .byte)) (by decide) (by decide)))
  have F_binaryValue_a1 := F_binaryValue_a1.same W
  have A_b13 := A_b13.other W (Ne.symm ne_a1_b13)
  have E_b13 := E_b13.wr W
  have N := Fr.snoc X N g_a1
  have K := K.wr W (Or.inl (List.mem_of_getElem? (i := 0) rfl))
  have Zs := Nat.le_trans Zs (Keep.of_wr W).1
  refine own_ret X hx hby hret hlk d1_35 (by decide) (by decide) ?_
  rw [eT]
  exact ⟨b13, rfl, N, K, sz_b13, E_a1, F_dataType_a1, F_stringValue_a1, F_binaryValue_a1, A_b13, E_b13⟩
theorem ef_1_n (a1 : Addr) (m : MethodId) : entryFrame m #[(.ref a1), .null, .null, .null] 4 = mkF m 0 #[.val (.ref a1), .val .null, .val .null, .val .null] [] := by first | (simp [entryFrame, mkF, argsToLocals, Value.category]; done) | rfl
def Q1_n (Z : State) (a1 : Addr) (h0 : Heap) (n0 : Nat) (v : Option Value) (h : Heap) (L : List Loc) : Prop := v = none ∧ Fr n0 L ∧ Keep h0 h [a1] ∧ Exa Z h a1 "com/example/inflight/inflight/AttributeValue" ∧ Fld Z h a1 "com/example/inflight/inflight/AttributeValue" "dataType" "Ljava/lang/String;" .null ∧ Fld Z h a1 "com/example/inflight/inflight/AttributeValue" "stringValue" "Ljava/lang/String;" .null ∧ Fld Z h a1 "com/example/inflight/inflight/AttributeValue" "binaryValue" "[B" .null
set_option maxRecDepth 65536 in
set_option maxHeartbeats 40000000 in
theorem rm1_n (l : Launch) (Z : State) (a0 : Array Value) (hw : ∀ d ∈ tables_1, d.before a0 Z = true) (a1 : Addr) (h0 : Heap) (n0 : Nat) (Zs : n0 ≤ h0.size) (E_a1 : Exa Z h0 a1 "com/example/inflight/inflight/AttributeValue") (F_dataType_a1 : Fld Z h0 a1 "com/example/inflight/inflight/AttributeValue" "dataType" "Ljava/lang/String;" .null) (F_stringValue_a1 : Fld Z h0 a1 "com/example/inflight/inflight/AttributeValue" "stringValue" "Ljava/lang/String;" .null) (F_binaryValue_a1 : Fld Z h0 a1 "com/example/inflight/inflight/AttributeValue" "binaryValue" "[B" .null) (g_a1 : n0 ≤ a1) :
    Met1 l Z (⟨"com/example/inflight/inflight/AttributeValue", "<init>", "(Ljava/lang/String;Ljava/lang/String;[B)V"⟩ : MethodName) prog_3_method_1_code 4 none ({ frames := 2, cells := 0, slots := 0, locals := 24 } : Room) #[(.ref a1), .null, .null, .null] h0 (Q1_n Z a1 h0 n0) := by
  refine own_met_of (plainFor_of_name pn_1) (ef_1_n a1) ?_
  intro p e s m below meth c s₁ X hx hby hml hZ hown hnm hret hlk eT
  have hown : s.vm.findClass "com/example/inflight/inflight/AttributeValue" = some m.cls := hown
  have N := Fr.nil n0
  have K := Keep.refl h0 [a1]
  refine own_aloadN X hx hby (.ref a1) d1_0 rfl rfl 1 rfl ?_
  refine own_callC X hx hby hZ (st := []) [] rfl rfl hown (hw _ (List.mem_of_getElem? (i := 7) rfl)) (hw _ (List.mem_of_getElem? (i := 8) rfl)) (hw _ (List.mem_of_getElem? (i := 10) rfl)) (hw _ (List.mem_of_getElem? (i := 11) rfl)) (by decide) d1_1 (rm2 l Z a0 hw a1 h0 n0 Zs ) eT pd_1 rfl (by rw [hml]; rfl) (by decide) 0 rfl (by decide) (by decide) (by decide) 4 rfl ?_
  intro T1 L9 v9 X hQ
  obtain ⟨rfl, N9, eT⟩ := hQ
  have N := Fr.app N N9
  show Go p e below _ T1 (mkF m 4 #[.val (.ref a1), .val .null, .val .null, .val .null] [])
  refine own_aloadN X hx hby .null d1_4 rfl rfl 5 rfl ?_
  refine own_ifnonnullN X hx hby d1_5 8 rfl ?_
  refine own_aconstNull X hx hby d1_8 9 rfl ?_
  refine own_goto X hx hby d1_9 19 (by decide) ?_
  refine own_astoreN X hx hby d1_19 rfl (l' := #[.val (.ref a1), .val .null, .val .null, .val .null]) rfl 20 rfl ?_
  refine own_aloadN X hx hby (.ref a1) d1_20 rfl rfl 21 rfl ?_
  refine own_aloadN X hx hby .null d1_21 rfl rfl 22 rfl ?_
  refine own_putF X hx hby hZ hown (host := "") (Or.inl (hw _ (List.mem_of_getElem? (i := 24) rfl))) Via.refl eT F_dataType_a1 E_a1 (Or.inr ⟨(hw _ (List.mem_of_getElem? (i := 25) rfl)), rfl, hnm⟩) (hw _ (List.mem_of_getElem? (i := 2) rfl)) (ty := (.object "java/lang/String")) (by decide) rfl rfl d1_22 25 rfl ?_
  intro T22 h22 X eT W
  have E_a1 := E_a1.wr W
  have F_dataType_a1 := F_dataType_a1.same W
  have F_stringValue_a1 := F_stringValue_a1.other W (Or.inr (slot_ne (Or.inr (hw _ (List.mem_of_getElem? (i := 27) rfl))) (Or.inr (hw _ (List.mem_of_getElem? (i := 25) rfl))) (by decide) (t := (.object "java/lang/String")) (t' := (.object "java/lang/String")) (by decide) (by decide)))
  have F_binaryValue_a1 := F_binaryValue_a1.other W (Or.inr (slot_ne (Or.inr (hw _ (List.mem_of_getElem? (i := 29) rfl))) (Or.inr (hw _ (List.mem_of_getElem? (i := 25) rfl))) (by decide) (t := (.array .byte)) (t' := (.object "java/lang/String")) (by decide) (by decide)))
  have N := Fr.snoc X N g_a1
  have K := K.wr W (Or.inl (List.mem_of_getElem? (i := 0) rfl))
  have Zs := Nat.le_trans Zs (Keep.of_wr W).1
  refine own_aloadN X hx hby (.ref a1) d1_25 rfl rfl 26 rfl ?_
  refine own_aloadN X hx hby .null d1_26 rfl rfl 27 rfl ?_
  refine own_putF X hx hby hZ hown (host := "") (Or.inl (hw _ (List.mem_of_getElem? (i := 26) rfl))) Via.refl eT F_stringValue_a1 E_a1 (Or.inr ⟨(hw _ (List.mem_of_getElem? (i := 27) rfl)), rfl, hnm⟩) (hw _ (List.mem_of_getElem? (i := 2) rfl)) (ty := (.object "java/lang/String")) (by decide) rfl rfl d1_27 30 rfl ?_
  intro T27 h27 X eT W
  have E_a1 := E_a1.wr W
  have F_dataType_a1 := F_dataType_a1.other W (Or.inr (slot_ne (Or.inr (hw _ (List.mem_of_getElem? (i := 25) rfl))) (Or.inr (hw _ (List.mem_of_getElem? (i := 27) rfl))) (by decide) (t := (.object "java/lang/String")) (t' := (.object "java/lang/String")) (by decide) (by decide)))
  have F_stringValue_a1 := F_stringValue_a1.same W
  have F_binaryValue_a1 := F_binaryValue_a1.other W (Or.inr (slot_ne (Or.inr (hw _ (List.mem_of_getElem? (i := 29) rfl))) (Or.inr (hw _ (List.mem_of_getElem? (i := 27) rfl))) (by decide) (t := (.array .byte)) (t' := (.object "java/lang/String")) (by decide) (by decide)))
  have N := Fr.snoc X N g_a1
  have K := K.wr W (Or.inl (List.mem_of_getElem? (i := 0) rfl))
  have Zs := Nat.le_trans Zs (Keep.of_wr W).1
  refine own_aloadN X hx hby (.ref a1) d1_30 rfl rfl 31 rfl ?_
  refine own_aloadN X hx hby .null d1_31 rfl rfl 32 rfl ?_
  refine own_putF X hx hby hZ hown (host := "") (Or.inl (hw _ (List.mem_of_getElem? (i := 28) rfl))) Via.refl eT F_binaryValue_a1 E_a1 (Or.inr ⟨(hw _ (List.mem_of_getElem? (i := 29) rfl)), rfl, hnm⟩) (hw _ (List.mem_of_getElem? (i := 2) rfl)) (ty := (.array .byte)) (by decide) rfl rfl d1_32 35 rfl ?_
  intro T32 h32 X eT W
  have E_a1 := E_a1.wr W
  have F_dataType_a1 := F_dataType_a1.other W (Or.inr (slot_ne (Or.inr (hw _ (List.mem_of_getElem? (i := 25) rfl))) (Or.inr (hw _ (List.mem_of_getElem? (i := 29) rfl))) (by decide) (t := (.object "java/lang/String")) (t' := (.array .byte)) (by decide) (by decide)))
  have F_stringValue_a1 := F_stringValue_a1.other W (Or.inr (slot_ne (Or.inr (hw _ (List.mem_of_getElem? (i := 27) rfl))) (Or.inr (hw _ (List.mem_of_getElem? (i := 29) rfl))) (by decide) (t := (.object "java/lang/String")) (t' := (.array .byte)) (by decide) (by decide)))
  have F_binaryValue_a1 := F_binaryValue_a1.same W
  have N := Fr.snoc X N g_a1
  have K := K.wr W (Or.inl (List.mem_of_getElem? (i := 0) rfl))
  have Zs := Nat.le_trans Zs (Keep.of_wr W).1
  refine own_ret X hx hby hret hlk d1_35 (by decide) (by decide) ?_
  rw [eT]
  exact ⟨rfl, N, K, E_a1, F_dataType_a1, F_stringValue_a1, F_binaryValue_a1⟩
theorem ef_4_0 (a1 : Addr) (m : MethodId) : entryFrame m #[(.ref a1)] 1 = mkF m 0 #[.val (.ref a1)] [] := by first | (simp [entryFrame, mkF, argsToLocals, Value.category]; done) | rfl
def Q4_0 (Z : State) (a1 : Addr) (r1 : Addr) (ar_r1 : Nat → Int32) (h0 : Heap) (n0 : Nat) (v : Option Value) (h : Heap) (L : List Loc) : Prop := ∃ (b15 : Addr), v = some (.ref b15) ∧ Fr n0 L ∧ Keep h0 h [] ∧ h0.size ≤ b15 ∧ Afi Z h b15 .byte 0 ar_r1 ∧ Exa Z h b15 "[B"
set_option maxRecDepth 65536 in
set_option maxHeartbeats 40000000 in
theorem rm4_0 (l : Launch) (Z : State) (a0 : Array Value) (hw : ∀ d ∈ tables_1, d.before a0 Z = true) (a1 : Addr) (r1 : Addr) (ar_r1 : Nat → Int32) (h0 : Heap) (n0 : Nat) (Zs : n0 ≤ h0.size) (A_r1 : Afi Z h0 r1 .byte 0 ar_r1) (E_r1 : Exa Z h0 r1 "[B") (F_binaryValue_a1 : Fld Z h0 a1 "com/example/inflight/inflight/AttributeValue" "binaryValue" "[B" (.ref r1)) :
    Met1 l Z (⟨"com/example/inflight/inflight/AttributeValue", "binaryValue", "()[B"⟩ : MethodName) prog_3_method_2_code 1 (some (.array .byte)) ({ frames := 1, cells := 1, slots := 0, locals := 14 } : Room) #[(.ref a1)] h0 (Q4_0 Z a1 r1 ar_r1 h0 n0) := by
  refine own_met_of (plainFor_of_name pn_1) (ef_4_0 a1) ?_
  intro p e s m below meth c s₁ X hx hby hml hZ hown hnm hret hlk eT
  have hown : s.vm.findClass "com/example/inflight/inflight/AttributeValue" = some m.cls := hown
  have N := Fr.nil n0
  have K := Keep.refl h0 []
  refine own_aloadN X hx hby (.ref a1) d4_0 rfl rfl 1 rfl ?_
  refine own_getF X hx hby hZ hown (host := "") (Or.inl (hw _ (List.mem_of_getElem? (i := 28) rfl))) Via.refl eT F_binaryValue_a1 d4_1 4 rfl ?_
  intro T1 X eT
  refine own_ifnonnullY X hx hby d4_4 11 (by decide) ?_
  refine own_aloadN X hx hby (.ref a1) d4_11 rfl rfl 12 rfl ?_
  refine own_getF X hx hby hZ hown (host := "") (Or.inl (hw _ (List.mem_of_getElem? (i := 28) rfl))) Via.refl eT F_binaryValue_a1 d4_12 15 rfl ?_
  intro T12 X eT
  refine own_clone X hx hby hZ hown (hw _ (List.mem_of_getElem? (i := 15) rfl)) (hw _ (List.mem_of_getElem? (i := 16) rfl)) (hw _ (List.mem_of_getElem? (i := 20) rfl)) (hw _ (List.mem_of_getElem? (i := 18) rfl)) (hw _ (List.mem_of_getElem? (i := 19) rfl)) (hw _ (List.mem_of_getElem? (i := 21) rfl)) eT A_r1 E_r1 (by rw [hml]; rfl) d4_15 (by decide) 0 rfl (by decide) (cap := 0) (by decide) (by decide) (by decide) 18 rfl ?_
  intro T15 h15 b15 gb15 X eT Ex A A2
  have g_b15 : n0 ≤ b15 := by rw [gb15]; exact Zs
  have sz_b15 : h0.size ≤ b15 := by rw [gb15]; exact K.1
  have ne_a1_b15 : a1 ≠ b15 := Nat.ne_of_lt (by rw [gb15]; exact F_binaryValue_a1.lt)
  have ne_r1_b15 : r1 ≠ b15 := Nat.ne_of_lt (by rw [gb15]; exact A_r1.lt)
  have A_r1 := A_r1.ext Ex
  have E_r1 := E_r1.ext Ex
  have F_binaryValue_a1 := F_binaryValue_a1.ext Ex
  have A_b15 : Afi Z h15 b15 .byte 0 ar_r1 := A
  have E_b15 := A2
  have K := K.ext Ex
  have Zs := Nat.le_trans Zs Ex.1
  refine own_castY X hx hby hZ hown (hw _ (List.mem_of_getElem? (i := 22) rfl)) eT (Ins.self E_b15) d4_18 21 rfl ?_
  intro T18 X eT
  refine own_retA X hx hby hret hlk rfl rfl rfl d4_21 (by decide) (by decide) ?_
  rw [eT]
  exact ⟨b15, rfl, N, K, sz_b15, A_b15, E_b15⟩
theorem ef_4_1 (a1 : Addr) (m : MethodId) : entryFrame m #[(.ref a1)] 1 = mkF m 0 #[.val (.ref a1)] [] := by first | (simp [entryFrame, mkF, argsToLocals, Value.category]; done) | rfl
def Q4_1 (Z : State) (a1 : Addr) (r1 : Addr) (ar_r1 : Nat → Int32) (h0 : Heap) (n0 : Nat) (v : Option Value) (h : Heap) (L : List Loc) : Prop := ∃ (b15 : Addr), v = some (.ref b15) ∧ Fr n0 L ∧ Keep h0 h [] ∧ h0.size ≤ b15 ∧ Afi Z h b15 .byte 1 ar_r1 ∧ Exa Z h b15 "[B"
set_option maxRecDepth 65536 in
set_option maxHeartbeats 40000000 in
theorem rm4_1 (l : Launch) (Z : State) (a0 : Array Value) (hw : ∀ d ∈ tables_1, d.before a0 Z = true) (a1 : Addr) (r1 : Addr) (ar_r1 : Nat → Int32) (h0 : Heap) (n0 : Nat) (Zs : n0 ≤ h0.size) (A_r1 : Afi Z h0 r1 .byte 1 ar_r1) (E_r1 : Exa Z h0 r1 "[B") (F_binaryValue_a1 : Fld Z h0 a1 "com/example/inflight/inflight/AttributeValue" "binaryValue" "[B" (.ref r1)) :
    Met1 l Z (⟨"com/example/inflight/inflight/AttributeValue", "binaryValue", "()[B"⟩ : MethodName) prog_3_method_2_code 1 (some (.array .byte)) ({ frames := 1, cells := 1, slots := 1, locals := 14 } : Room) #[(.ref a1)] h0 (Q4_1 Z a1 r1 ar_r1 h0 n0) := by
  refine own_met_of (plainFor_of_name pn_1) (ef_4_1 a1) ?_
  intro p e s m below meth c s₁ X hx hby hml hZ hown hnm hret hlk eT
  have hown : s.vm.findClass "com/example/inflight/inflight/AttributeValue" = some m.cls := hown
  have N := Fr.nil n0
  have K := Keep.refl h0 []
  refine own_aloadN X hx hby (.ref a1) d4_0 rfl rfl 1 rfl ?_
  refine own_getF X hx hby hZ hown (host := "") (Or.inl (hw _ (List.mem_of_getElem? (i := 28) rfl))) Via.refl eT F_binaryValue_a1 d4_1 4 rfl ?_
  intro T1 X eT
  refine own_ifnonnullY X hx hby d4_4 11 (by decide) ?_
  refine own_aloadN X hx hby (.ref a1) d4_11 rfl rfl 12 rfl ?_
  refine own_getF X hx hby hZ hown (host := "") (Or.inl (hw _ (List.mem_of_getElem? (i := 28) rfl))) Via.refl eT F_binaryValue_a1 d4_12 15 rfl ?_
  intro T12 X eT
  refine own_clone X hx hby hZ hown (hw _ (List.mem_of_getElem? (i := 15) rfl)) (hw _ (List.mem_of_getElem? (i := 16) rfl)) (hw _ (List.mem_of_getElem? (i := 20) rfl)) (hw _ (List.mem_of_getElem? (i := 18) rfl)) (hw _ (List.mem_of_getElem? (i := 19) rfl)) (hw _ (List.mem_of_getElem? (i := 21) rfl)) eT A_r1 E_r1 (by rw [hml]; rfl) d4_15 (by decide) 0 rfl (by decide) (cap := 1) (by decide) (by decide) (by decide) 18 rfl ?_
  intro T15 h15 b15 gb15 X eT Ex A A2
  have g_b15 : n0 ≤ b15 := by rw [gb15]; exact Zs
  have sz_b15 : h0.size ≤ b15 := by rw [gb15]; exact K.1
  have ne_a1_b15 : a1 ≠ b15 := Nat.ne_of_lt (by rw [gb15]; exact F_binaryValue_a1.lt)
  have ne_r1_b15 : r1 ≠ b15 := Nat.ne_of_lt (by rw [gb15]; exact A_r1.lt)
  have A_r1 := A_r1.ext Ex
  have E_r1 := E_r1.ext Ex
  have F_binaryValue_a1 := F_binaryValue_a1.ext Ex
  have A_b15 : Afi Z h15 b15 .byte 1 ar_r1 := A
  have E_b15 := A2
  have K := K.ext Ex
  have Zs := Nat.le_trans Zs Ex.1
  refine own_castY X hx hby hZ hown (hw _ (List.mem_of_getElem? (i := 22) rfl)) eT (Ins.self E_b15) d4_18 21 rfl ?_
  intro T18 X eT
  refine own_retA X hx hby hret hlk rfl rfl rfl d4_21 (by decide) (by decide) ?_
  rw [eT]
  exact ⟨b15, rfl, N, K, sz_b15, A_b15, E_b15⟩
theorem ef_4_2 (a1 : Addr) (m : MethodId) : entryFrame m #[(.ref a1)] 1 = mkF m 0 #[.val (.ref a1)] [] := by first | (simp [entryFrame, mkF, argsToLocals, Value.category]; done) | rfl
def Q4_2 (Z : State) (a1 : Addr) (r1 : Addr) (ar_r1 : Nat → Int32) (h0 : Heap) (n0 : Nat) (v : Option Value) (h : Heap) (L : List Loc) : Prop := ∃ (b15 : Addr), v = some (.ref b15) ∧ Fr n0 L ∧ Keep h0 h [] ∧ h0.size ≤ b15 ∧ Afi Z h b15 .byte 2 ar_r1 ∧ Exa Z h b15 "[B"
set_option maxRecDepth 65536 in
set_option maxHeartbeats 40000000 in
theorem rm4_2 (l : Launch) (Z : State) (a0 : Array Value) (hw : ∀ d ∈ tables_1, d.before a0 Z = true) (a1 : Addr) (r1 : Addr) (ar_r1 : Nat → Int32) (h0 : Heap) (n0 : Nat) (Zs : n0 ≤ h0.size) (A_r1 : Afi Z h0 r1 .byte 2 ar_r1) (E_r1 : Exa Z h0 r1 "[B") (F_binaryValue_a1 : Fld Z h0 a1 "com/example/inflight/inflight/AttributeValue" "binaryValue" "[B" (.ref r1)) :
    Met1 l Z (⟨"com/example/inflight/inflight/AttributeValue", "binaryValue", "()[B"⟩ : MethodName) prog_3_method_2_code 1 (some (.array .byte)) ({ frames := 1, cells := 1, slots := 2, locals := 14 } : Room) #[(.ref a1)] h0 (Q4_2 Z a1 r1 ar_r1 h0 n0) := by
  refine own_met_of (plainFor_of_name pn_1) (ef_4_2 a1) ?_
  intro p e s m below meth c s₁ X hx hby hml hZ hown hnm hret hlk eT
  have hown : s.vm.findClass "com/example/inflight/inflight/AttributeValue" = some m.cls := hown
  have N := Fr.nil n0
  have K := Keep.refl h0 []
  refine own_aloadN X hx hby (.ref a1) d4_0 rfl rfl 1 rfl ?_
  refine own_getF X hx hby hZ hown (host := "") (Or.inl (hw _ (List.mem_of_getElem? (i := 28) rfl))) Via.refl eT F_binaryValue_a1 d4_1 4 rfl ?_
  intro T1 X eT
  refine own_ifnonnullY X hx hby d4_4 11 (by decide) ?_
  refine own_aloadN X hx hby (.ref a1) d4_11 rfl rfl 12 rfl ?_
  refine own_getF X hx hby hZ hown (host := "") (Or.inl (hw _ (List.mem_of_getElem? (i := 28) rfl))) Via.refl eT F_binaryValue_a1 d4_12 15 rfl ?_
  intro T12 X eT
  refine own_clone X hx hby hZ hown (hw _ (List.mem_of_getElem? (i := 15) rfl)) (hw _ (List.mem_of_getElem? (i := 16) rfl)) (hw _ (List.mem_of_getElem? (i := 20) rfl)) (hw _ (List.mem_of_getElem? (i := 18) rfl)) (hw _ (List.mem_of_getElem? (i := 19) rfl)) (hw _ (List.mem_of_getElem? (i := 21) rfl)) eT A_r1 E_r1 (by rw [hml]; rfl) d4_15 (by decide) 0 rfl (by decide) (cap := 2) (by decide) (by decide) (by decide) 18 rfl ?_
  intro T15 h15 b15 gb15 X eT Ex A A2
  have g_b15 : n0 ≤ b15 := by rw [gb15]; exact Zs
  have sz_b15 : h0.size ≤ b15 := by rw [gb15]; exact K.1
  have ne_a1_b15 : a1 ≠ b15 := Nat.ne_of_lt (by rw [gb15]; exact F_binaryValue_a1.lt)
  have ne_r1_b15 : r1 ≠ b15 := Nat.ne_of_lt (by rw [gb15]; exact A_r1.lt)
  have A_r1 := A_r1.ext Ex
  have E_r1 := E_r1.ext Ex
  have F_binaryValue_a1 := F_binaryValue_a1.ext Ex
  have A_b15 : Afi Z h15 b15 .byte 2 ar_r1 := A
  have E_b15 := A2
  have K := K.ext Ex
  have Zs := Nat.le_trans Zs Ex.1
  refine own_castY X hx hby hZ hown (hw _ (List.mem_of_getElem? (i := 22) rfl)) eT (Ins.self E_b15) d4_18 21 rfl ?_
  intro T18 X eT
  refine own_retA X hx hby hret hlk rfl rfl rfl d4_21 (by decide) (by decide) ?_
  rw [eT]
  exact ⟨b15, rfl, N, K, sz_b15, A_b15, E_b15⟩
theorem ef_4_3 (a1 : Addr) (m : MethodId) : entryFrame m #[(.ref a1)] 1 = mkF m 0 #[.val (.ref a1)] [] := by first | (simp [entryFrame, mkF, argsToLocals, Value.category]; done) | rfl
def Q4_3 (Z : State) (a1 : Addr) (r1 : Addr) (ar_r1 : Nat → Int32) (h0 : Heap) (n0 : Nat) (v : Option Value) (h : Heap) (L : List Loc) : Prop := ∃ (b15 : Addr), v = some (.ref b15) ∧ Fr n0 L ∧ Keep h0 h [] ∧ h0.size ≤ b15 ∧ Afi Z h b15 .byte 3 ar_r1 ∧ Exa Z h b15 "[B"
set_option maxRecDepth 65536 in
set_option maxHeartbeats 40000000 in
theorem rm4_3 (l : Launch) (Z : State) (a0 : Array Value) (hw : ∀ d ∈ tables_1, d.before a0 Z = true) (a1 : Addr) (r1 : Addr) (ar_r1 : Nat → Int32) (h0 : Heap) (n0 : Nat) (Zs : n0 ≤ h0.size) (A_r1 : Afi Z h0 r1 .byte 3 ar_r1) (E_r1 : Exa Z h0 r1 "[B") (F_binaryValue_a1 : Fld Z h0 a1 "com/example/inflight/inflight/AttributeValue" "binaryValue" "[B" (.ref r1)) :
    Met1 l Z (⟨"com/example/inflight/inflight/AttributeValue", "binaryValue", "()[B"⟩ : MethodName) prog_3_method_2_code 1 (some (.array .byte)) ({ frames := 1, cells := 1, slots := 3, locals := 14 } : Room) #[(.ref a1)] h0 (Q4_3 Z a1 r1 ar_r1 h0 n0) := by
  refine own_met_of (plainFor_of_name pn_1) (ef_4_3 a1) ?_
  intro p e s m below meth c s₁ X hx hby hml hZ hown hnm hret hlk eT
  have hown : s.vm.findClass "com/example/inflight/inflight/AttributeValue" = some m.cls := hown
  have N := Fr.nil n0
  have K := Keep.refl h0 []
  refine own_aloadN X hx hby (.ref a1) d4_0 rfl rfl 1 rfl ?_
  refine own_getF X hx hby hZ hown (host := "") (Or.inl (hw _ (List.mem_of_getElem? (i := 28) rfl))) Via.refl eT F_binaryValue_a1 d4_1 4 rfl ?_
  intro T1 X eT
  refine own_ifnonnullY X hx hby d4_4 11 (by decide) ?_
  refine own_aloadN X hx hby (.ref a1) d4_11 rfl rfl 12 rfl ?_
  refine own_getF X hx hby hZ hown (host := "") (Or.inl (hw _ (List.mem_of_getElem? (i := 28) rfl))) Via.refl eT F_binaryValue_a1 d4_12 15 rfl ?_
  intro T12 X eT
  refine own_clone X hx hby hZ hown (hw _ (List.mem_of_getElem? (i := 15) rfl)) (hw _ (List.mem_of_getElem? (i := 16) rfl)) (hw _ (List.mem_of_getElem? (i := 20) rfl)) (hw _ (List.mem_of_getElem? (i := 18) rfl)) (hw _ (List.mem_of_getElem? (i := 19) rfl)) (hw _ (List.mem_of_getElem? (i := 21) rfl)) eT A_r1 E_r1 (by rw [hml]; rfl) d4_15 (by decide) 0 rfl (by decide) (cap := 3) (by decide) (by decide) (by decide) 18 rfl ?_
  intro T15 h15 b15 gb15 X eT Ex A A2
  have g_b15 : n0 ≤ b15 := by rw [gb15]; exact Zs
  have sz_b15 : h0.size ≤ b15 := by rw [gb15]; exact K.1
  have ne_a1_b15 : a1 ≠ b15 := Nat.ne_of_lt (by rw [gb15]; exact F_binaryValue_a1.lt)
  have ne_r1_b15 : r1 ≠ b15 := Nat.ne_of_lt (by rw [gb15]; exact A_r1.lt)
  have A_r1 := A_r1.ext Ex
  have E_r1 := E_r1.ext Ex
  have F_binaryValue_a1 := F_binaryValue_a1.ext Ex
  have A_b15 : Afi Z h15 b15 .byte 3 ar_r1 := A
  have E_b15 := A2
  have K := K.ext Ex
  have Zs := Nat.le_trans Zs Ex.1
  refine own_castY X hx hby hZ hown (hw _ (List.mem_of_getElem? (i := 22) rfl)) eT (Ins.self E_b15) d4_18 21 rfl ?_
  intro T18 X eT
  refine own_retA X hx hby hret hlk rfl rfl rfl d4_21 (by decide) (by decide) ?_
  rw [eT]
  exact ⟨b15, rfl, N, K, sz_b15, A_b15, E_b15⟩
theorem ef_4_n (a1 : Addr) (m : MethodId) : entryFrame m #[(.ref a1)] 1 = mkF m 0 #[.val (.ref a1)] [] := by first | (simp [entryFrame, mkF, argsToLocals, Value.category]; done) | rfl
def Q4_n (Z : State) (a1 : Addr) (h0 : Heap) (n0 : Nat) (v : Option Value) (h : Heap) (L : List Loc) : Prop := v = some .null ∧ Fr n0 L ∧ h = h0
set_option maxRecDepth 65536 in
set_option maxHeartbeats 40000000 in
theorem rm4_n (l : Launch) (Z : State) (a0 : Array Value) (hw : ∀ d ∈ tables_1, d.before a0 Z = true) (a1 : Addr) (h0 : Heap) (n0 : Nat) (Zs : n0 ≤ h0.size) (F_binaryValue_a1 : Fld Z h0 a1 "com/example/inflight/inflight/AttributeValue" "binaryValue" "[B" .null) :
    Met1 l Z (⟨"com/example/inflight/inflight/AttributeValue", "binaryValue", "()[B"⟩ : MethodName) prog_3_method_2_code 1 (some (.array .byte)) ({ frames := 0, cells := 0, slots := 0, locals := 0 } : Room) #[(.ref a1)] h0 (Q4_n Z a1 h0 n0) := by
  refine own_met_of (plainFor_of_name pn_1) (ef_4_n a1) ?_
  intro p e s m below meth c s₁ X hx hby hml hZ hown hnm hret hlk eT
  have hown : s.vm.findClass "com/example/inflight/inflight/AttributeValue" = some m.cls := hown
  have N := Fr.nil n0
  refine own_aloadN X hx hby (.ref a1) d4_0 rfl rfl 1 rfl ?_
  refine own_getF X hx hby hZ hown (host := "") (Or.inl (hw _ (List.mem_of_getElem? (i := 28) rfl))) Via.refl eT F_binaryValue_a1 d4_1 4 rfl ?_
  intro T1 X eT
  refine own_ifnonnullN X hx hby d4_4 7 rfl ?_
  refine own_aconstNull X hx hby d4_7 8 rfl ?_
  refine own_goto X hx hby d4_8 21 (by decide) ?_
  refine own_retA X hx hby hret hlk rfl rfl rfl d4_21 (by decide) (by decide) ?_
  rw [eT]
  exact ⟨rfl, N, rfl⟩
theorem ef_5_0 (a1 : Addr) (p3 : Int32) (p4 : Int32) (p5 : Int32) (m : MethodId) : entryFrame m #[(.ref a1), (.int (0 : Int32)), (.int p3), (.int p4), (.int p5)] 5 = mkF m 0 #[.val (.ref a1), .val (.int (0 : Int32)), .val (.int p3), .val (.int p4), .val (.int p5)] [] := by first | (simp [entryFrame, mkF, argsToLocals, Value.category]; done) | rfl
def Q5_0 (Z : State) (a1 : Addr) (p3 : Int32) (p4 : Int32) (p5 : Int32) (ar_a1 : Nat → Int32) (h0 : Heap) (n0 : Nat) (v : Option Value) (h : Heap) (L : List Loc) : Prop := v = some (.int (1 : Int32)) ∧ Fr n0 L ∧ h = h0
set_option maxRecDepth 65536 in
set_option maxHeartbeats 40000000 in
theorem rm5_0 (l : Launch) (Z : State) (a0 : Array Value) (hw : ∀ d ∈ tables_1, d.before a0 Z = true) (a1 : Addr) (p3 : Int32) (p4 : Int32) (p5 : Int32) (ar_a1 : Nat → Int32) (h0 : Heap) (n0 : Nat) (Zs : n0 ≤ h0.size) (A_a1 : Afi Z h0 a1 .byte 0 ar_a1) (E_a1 : Exa Z h0 a1 "[B") :
    Met1 l Z (⟨"com/example/inflight/inflight/AttributeValueBinaryValuePinLaw", "same", "([BIBBB)Z"⟩ : MethodName) method_3_code 5 (some .boolean) ({ frames := 0, cells := 0, slots := 0, locals := 0 } : Room) #[(.ref a1), (.int (0 : Int32)), (.int p3), (.int p4), (.int p5)] h0 (Q5_0 Z a1 p3 p4 p5 ar_a1 h0 n0) := by
  refine own_met_of (plainFor_of_name pn_5) (ef_5_0 a1 p3 p4 p5) ?_
  intro p e s m below meth c s₁ X hx hby hml hZ hown hnm hret hlk eT
  have hown : s.vm.findClass "com/example/inflight/inflight/AttributeValueBinaryValuePinLaw" = some m.cls := hown
  have N := Fr.nil n0
  refine own_iloadN X hx hby (0 : Int32) d5_0 rfl 1 rfl ?_
  refine own_iconst X hx hby (1 : Int32) d5_1 rfl 2 rfl ?_
  have c2 : (0 : Int32) < (1 : Int32) := by decide
  refine own_icmp_lt X hx hby d5_2 12 5 (by decide) rfl (fun _ => ?_) (fun q => absurd c2 q)
  refine own_iloadN X hx hby (0 : Int32) d5_12 rfl 13 rfl ?_
  refine own_iconst X hx hby (2 : Int32) d5_13 rfl 14 rfl ?_
  have c14 : (0 : Int32) < (2 : Int32) := by decide
  refine own_icmp_lt X hx hby d5_14 24 17 (by decide) rfl (fun _ => ?_) (fun q => absurd c14 q)
  refine own_iloadN X hx hby (0 : Int32) d5_24 rfl 25 rfl ?_
  refine own_iconst X hx hby (3 : Int32) d5_25 rfl 26 rfl ?_
  have c26 : (0 : Int32) < (3 : Int32) := by decide
  refine own_icmp_lt X hx hby d5_26 37 29 (by decide) rfl (fun _ => ?_) (fun q => absurd c26 q)
  refine own_iconst X hx hby (1 : Int32) d5_37 rfl 38 rfl ?_
  refine own_goto X hx hby d5_38 42 (by decide) ?_
  refine own_retN X hx hby hret hlk (t := .boolean) (z' := (1 : Int32)) (by simp) d5_42 (by decide) (by decide) rfl ?_
  rw [eT]
  exact ⟨rfl, N, rfl⟩
theorem ef_5_1 (a1 : Addr) (p3 : Int32) (p4 : Int32) (p5 : Int32) (m : MethodId) : entryFrame m #[(.ref a1), (.int (1 : Int32)), (.int p3), (.int p4), (.int p5)] 5 = mkF m 0 #[.val (.ref a1), .val (.int (1 : Int32)), .val (.int p3), .val (.int p4), .val (.int p5)] [] := by first | (simp [entryFrame, mkF, argsToLocals, Value.category]; done) | rfl
def f5_1 (p3 : Int32) (ar_a1 : Nat → Int32) : Int32 := (if (ar_a1 0) = p3 then (1 : Int32) else (0 : Int32))
def Q5_1 (Z : State) (a1 : Addr) (p3 : Int32) (p4 : Int32) (p5 : Int32) (ar_a1 : Nat → Int32) (h0 : Heap) (n0 : Nat) (v : Option Value) (h : Heap) (L : List Loc) : Prop := v = some (.int (f5_1 p3 ar_a1)) ∧ Fr n0 L ∧ h = h0
set_option maxRecDepth 65536 in
set_option maxHeartbeats 40000000 in
theorem rm5_1 (l : Launch) (Z : State) (a0 : Array Value) (hw : ∀ d ∈ tables_1, d.before a0 Z = true) (a1 : Addr) (p3 : Int32) (p4 : Int32) (p5 : Int32) (ar_a1 : Nat → Int32) (h0 : Heap) (n0 : Nat) (Zs : n0 ≤ h0.size) (A_a1 : Afi Z h0 a1 .byte 1 ar_a1) (E_a1 : Exa Z h0 a1 "[B") :
    Met1 l Z (⟨"com/example/inflight/inflight/AttributeValueBinaryValuePinLaw", "same", "([BIBBB)Z"⟩ : MethodName) method_3_code 5 (some .boolean) ({ frames := 0, cells := 0, slots := 0, locals := 0 } : Room) #[(.ref a1), (.int (1 : Int32)), (.int p3), (.int p4), (.int p5)] h0 (Q5_1 Z a1 p3 p4 p5 ar_a1 h0 n0) := by
  refine own_met_of (plainFor_of_name pn_5) (ef_5_1 a1 p3 p4 p5) ?_
  intro p e s m below meth c s₁ X hx hby hml hZ hown hnm hret hlk eT
  have hown : s.vm.findClass "com/example/inflight/inflight/AttributeValueBinaryValuePinLaw" = some m.cls := hown
  have N := Fr.nil n0
  refine own_iloadN X hx hby (1 : Int32) d5_0 rfl 1 rfl ?_
  refine own_iconst X hx hby (1 : Int32) d5_1 rfl 2 rfl ?_
  have c2 : ¬ (1 : Int32) < (1 : Int32) := by decide
  refine own_icmp_lt X hx hby d5_2 12 5 (by decide) rfl (fun q => absurd q c2) (fun _ => ?_)
  refine own_aloadN X hx hby (.ref a1) d5_5 rfl rfl 6 rfl ?_
  refine own_iconst X hx hby (0 : Int32) d5_6 rfl 7 rfl ?_
  refine own_baload X hx hby hZ (ar_a1 0) eT A_a1 (by decide) rfl d5_7 8 rfl ?_
  refine own_iloadN X hx hby p3 d5_8 rfl 9 rfl ?_
  refine own_icmp_ne X hx hby d5_9 41 12 (by decide) rfl (fun c9 => ?_) (fun c9 => ?_)
  · skip
    refine own_iconst X hx hby (0 : Int32) d5_41 rfl 42 rfl ?_
    refine own_retN X hx hby hret hlk (t := .boolean) (z' := (0 : Int32)) (by simp) d5_42 (by decide) (by decide) rfl ?_
    rw [eT]
    exact ⟨congrArg (fun z => some (Value.int z)) (by unfold f5_1; rw [if_neg c9]), N, rfl⟩
  · skip
    refine own_iloadN X hx hby (1 : Int32) d5_12 rfl 13 rfl ?_
    refine own_iconst X hx hby (2 : Int32) d5_13 rfl 14 rfl ?_
    have c14 : (1 : Int32) < (2 : Int32) := by decide
    refine own_icmp_lt X hx hby d5_14 24 17 (by decide) rfl (fun _ => ?_) (fun q => absurd c14 q)
    refine own_iloadN X hx hby (1 : Int32) d5_24 rfl 25 rfl ?_
    refine own_iconst X hx hby (3 : Int32) d5_25 rfl 26 rfl ?_
    have c26 : (1 : Int32) < (3 : Int32) := by decide
    refine own_icmp_lt X hx hby d5_26 37 29 (by decide) rfl (fun _ => ?_) (fun q => absurd c26 q)
    refine own_iconst X hx hby (1 : Int32) d5_37 rfl 38 rfl ?_
    refine own_goto X hx hby d5_38 42 (by decide) ?_
    refine own_retN X hx hby hret hlk (t := .boolean) (z' := (1 : Int32)) (by simp) d5_42 (by decide) (by decide) rfl ?_
    rw [eT]
    exact ⟨congrArg (fun z => some (Value.int z)) (by unfold f5_1; rw [if_pos c9]), N, rfl⟩
theorem ef_5_2 (a1 : Addr) (p3 : Int32) (p4 : Int32) (p5 : Int32) (m : MethodId) : entryFrame m #[(.ref a1), (.int (2 : Int32)), (.int p3), (.int p4), (.int p5)] 5 = mkF m 0 #[.val (.ref a1), .val (.int (2 : Int32)), .val (.int p3), .val (.int p4), .val (.int p5)] [] := by first | (simp [entryFrame, mkF, argsToLocals, Value.category]; done) | rfl
def f5_2 (p3 : Int32) (p4 : Int32) (ar_a1 : Nat → Int32) : Int32 := (if (ar_a1 0) = p3 then (if (ar_a1 1) = p4 then (1 : Int32) else (0 : Int32)) else (0 : Int32))
def Q5_2 (Z : State) (a1 : Addr) (p3 : Int32) (p4 : Int32) (p5 : Int32) (ar_a1 : Nat → Int32) (h0 : Heap) (n0 : Nat) (v : Option Value) (h : Heap) (L : List Loc) : Prop := v = some (.int (f5_2 p3 p4 ar_a1)) ∧ Fr n0 L ∧ h = h0
set_option maxRecDepth 65536 in
set_option maxHeartbeats 40000000 in
theorem rm5_2 (l : Launch) (Z : State) (a0 : Array Value) (hw : ∀ d ∈ tables_1, d.before a0 Z = true) (a1 : Addr) (p3 : Int32) (p4 : Int32) (p5 : Int32) (ar_a1 : Nat → Int32) (h0 : Heap) (n0 : Nat) (Zs : n0 ≤ h0.size) (A_a1 : Afi Z h0 a1 .byte 2 ar_a1) (E_a1 : Exa Z h0 a1 "[B") :
    Met1 l Z (⟨"com/example/inflight/inflight/AttributeValueBinaryValuePinLaw", "same", "([BIBBB)Z"⟩ : MethodName) method_3_code 5 (some .boolean) ({ frames := 0, cells := 0, slots := 0, locals := 0 } : Room) #[(.ref a1), (.int (2 : Int32)), (.int p3), (.int p4), (.int p5)] h0 (Q5_2 Z a1 p3 p4 p5 ar_a1 h0 n0) := by
  refine own_met_of (plainFor_of_name pn_5) (ef_5_2 a1 p3 p4 p5) ?_
  intro p e s m below meth c s₁ X hx hby hml hZ hown hnm hret hlk eT
  have hown : s.vm.findClass "com/example/inflight/inflight/AttributeValueBinaryValuePinLaw" = some m.cls := hown
  have N := Fr.nil n0
  refine own_iloadN X hx hby (2 : Int32) d5_0 rfl 1 rfl ?_
  refine own_iconst X hx hby (1 : Int32) d5_1 rfl 2 rfl ?_
  have c2 : ¬ (2 : Int32) < (1 : Int32) := by decide
  refine own_icmp_lt X hx hby d5_2 12 5 (by decide) rfl (fun q => absurd q c2) (fun _ => ?_)
  refine own_aloadN X hx hby (.ref a1) d5_5 rfl rfl 6 rfl ?_
  refine own_iconst X hx hby (0 : Int32) d5_6 rfl 7 rfl ?_
  refine own_baload X hx hby hZ (ar_a1 0) eT A_a1 (by decide) rfl d5_7 8 rfl ?_
  refine own_iloadN X hx hby p3 d5_8 rfl 9 rfl ?_
  refine own_icmp_ne X hx hby d5_9 41 12 (by decide) rfl (fun c9 => ?_) (fun c9 => ?_)
  · skip
    refine own_iconst X hx hby (0 : Int32) d5_41 rfl 42 rfl ?_
    refine own_retN X hx hby hret hlk (t := .boolean) (z' := (0 : Int32)) (by simp) d5_42 (by decide) (by decide) rfl ?_
    rw [eT]
    exact ⟨congrArg (fun z => some (Value.int z)) (by unfold f5_2; rw [if_neg c9]), N, rfl⟩
  · skip
    refine own_iloadN X hx hby (2 : Int32) d5_12 rfl 13 rfl ?_
    refine own_iconst X hx hby (2 : Int32) d5_13 rfl 14 rfl ?_
    have c14 : ¬ (2 : Int32) < (2 : Int32) := by decide
    refine own_icmp_lt X hx hby d5_14 24 17 (by decide) rfl (fun q => absurd q c14) (fun _ => ?_)
    refine own_aloadN X hx hby (.ref a1) d5_17 rfl rfl 18 rfl ?_
    refine own_iconst X hx hby (1 : Int32) d5_18 rfl 19 rfl ?_
    refine own_baload X hx hby hZ (ar_a1 1) eT A_a1 (by decide) rfl d5_19 20 rfl ?_
    refine own_iloadN X hx hby p4 d5_20 rfl 21 rfl ?_
    refine own_icmp_ne X hx hby d5_21 41 24 (by decide) rfl (fun c21 => ?_) (fun c21 => ?_)
    · skip
      refine own_iconst X hx hby (0 : Int32) d5_41 rfl 42 rfl ?_
      refine own_retN X hx hby hret hlk (t := .boolean) (z' := (0 : Int32)) (by simp) d5_42 (by decide) (by decide) rfl ?_
      rw [eT]
      exact ⟨congrArg (fun z => some (Value.int z)) (by unfold f5_2; rw [if_pos c9, if_neg c21]), N, rfl⟩
    · skip
      refine own_iloadN X hx hby (2 : Int32) d5_24 rfl 25 rfl ?_
      refine own_iconst X hx hby (3 : Int32) d5_25 rfl 26 rfl ?_
      have c26 : (2 : Int32) < (3 : Int32) := by decide
      refine own_icmp_lt X hx hby d5_26 37 29 (by decide) rfl (fun _ => ?_) (fun q => absurd c26 q)
      refine own_iconst X hx hby (1 : Int32) d5_37 rfl 38 rfl ?_
      refine own_goto X hx hby d5_38 42 (by decide) ?_
      refine own_retN X hx hby hret hlk (t := .boolean) (z' := (1 : Int32)) (by simp) d5_42 (by decide) (by decide) rfl ?_
      rw [eT]
      exact ⟨congrArg (fun z => some (Value.int z)) (by unfold f5_2; rw [if_pos c9, if_pos c21]), N, rfl⟩
theorem ef_5_3 (a1 : Addr) (p3 : Int32) (p4 : Int32) (p5 : Int32) (m : MethodId) : entryFrame m #[(.ref a1), (.int (3 : Int32)), (.int p3), (.int p4), (.int p5)] 5 = mkF m 0 #[.val (.ref a1), .val (.int (3 : Int32)), .val (.int p3), .val (.int p4), .val (.int p5)] [] := by first | (simp [entryFrame, mkF, argsToLocals, Value.category]; done) | rfl
def f5_3 (p3 : Int32) (p4 : Int32) (p5 : Int32) (ar_a1 : Nat → Int32) : Int32 := (if (ar_a1 0) = p3 then (if (ar_a1 1) = p4 then (if (ar_a1 2) = p5 then (1 : Int32) else (0 : Int32)) else (0 : Int32)) else (0 : Int32))
def Q5_3 (Z : State) (a1 : Addr) (p3 : Int32) (p4 : Int32) (p5 : Int32) (ar_a1 : Nat → Int32) (h0 : Heap) (n0 : Nat) (v : Option Value) (h : Heap) (L : List Loc) : Prop := v = some (.int (f5_3 p3 p4 p5 ar_a1)) ∧ Fr n0 L ∧ h = h0
set_option maxRecDepth 65536 in
set_option maxHeartbeats 40000000 in
theorem rm5_3 (l : Launch) (Z : State) (a0 : Array Value) (hw : ∀ d ∈ tables_1, d.before a0 Z = true) (a1 : Addr) (p3 : Int32) (p4 : Int32) (p5 : Int32) (ar_a1 : Nat → Int32) (h0 : Heap) (n0 : Nat) (Zs : n0 ≤ h0.size) (A_a1 : Afi Z h0 a1 .byte 3 ar_a1) (E_a1 : Exa Z h0 a1 "[B") :
    Met1 l Z (⟨"com/example/inflight/inflight/AttributeValueBinaryValuePinLaw", "same", "([BIBBB)Z"⟩ : MethodName) method_3_code 5 (some .boolean) ({ frames := 0, cells := 0, slots := 0, locals := 0 } : Room) #[(.ref a1), (.int (3 : Int32)), (.int p3), (.int p4), (.int p5)] h0 (Q5_3 Z a1 p3 p4 p5 ar_a1 h0 n0) := by
  refine own_met_of (plainFor_of_name pn_5) (ef_5_3 a1 p3 p4 p5) ?_
  intro p e s m below meth c s₁ X hx hby hml hZ hown hnm hret hlk eT
  have hown : s.vm.findClass "com/example/inflight/inflight/AttributeValueBinaryValuePinLaw" = some m.cls := hown
  have N := Fr.nil n0
  refine own_iloadN X hx hby (3 : Int32) d5_0 rfl 1 rfl ?_
  refine own_iconst X hx hby (1 : Int32) d5_1 rfl 2 rfl ?_
  have c2 : ¬ (3 : Int32) < (1 : Int32) := by decide
  refine own_icmp_lt X hx hby d5_2 12 5 (by decide) rfl (fun q => absurd q c2) (fun _ => ?_)
  refine own_aloadN X hx hby (.ref a1) d5_5 rfl rfl 6 rfl ?_
  refine own_iconst X hx hby (0 : Int32) d5_6 rfl 7 rfl ?_
  refine own_baload X hx hby hZ (ar_a1 0) eT A_a1 (by decide) rfl d5_7 8 rfl ?_
  refine own_iloadN X hx hby p3 d5_8 rfl 9 rfl ?_
  refine own_icmp_ne X hx hby d5_9 41 12 (by decide) rfl (fun c9 => ?_) (fun c9 => ?_)
  · skip
    refine own_iconst X hx hby (0 : Int32) d5_41 rfl 42 rfl ?_
    refine own_retN X hx hby hret hlk (t := .boolean) (z' := (0 : Int32)) (by simp) d5_42 (by decide) (by decide) rfl ?_
    rw [eT]
    exact ⟨congrArg (fun z => some (Value.int z)) (by unfold f5_3; rw [if_neg c9]), N, rfl⟩
  · skip
    refine own_iloadN X hx hby (3 : Int32) d5_12 rfl 13 rfl ?_
    refine own_iconst X hx hby (2 : Int32) d5_13 rfl 14 rfl ?_
    have c14 : ¬ (3 : Int32) < (2 : Int32) := by decide
    refine own_icmp_lt X hx hby d5_14 24 17 (by decide) rfl (fun q => absurd q c14) (fun _ => ?_)
    refine own_aloadN X hx hby (.ref a1) d5_17 rfl rfl 18 rfl ?_
    refine own_iconst X hx hby (1 : Int32) d5_18 rfl 19 rfl ?_
    refine own_baload X hx hby hZ (ar_a1 1) eT A_a1 (by decide) rfl d5_19 20 rfl ?_
    refine own_iloadN X hx hby p4 d5_20 rfl 21 rfl ?_
    refine own_icmp_ne X hx hby d5_21 41 24 (by decide) rfl (fun c21 => ?_) (fun c21 => ?_)
    · skip
      refine own_iconst X hx hby (0 : Int32) d5_41 rfl 42 rfl ?_
      refine own_retN X hx hby hret hlk (t := .boolean) (z' := (0 : Int32)) (by simp) d5_42 (by decide) (by decide) rfl ?_
      rw [eT]
      exact ⟨congrArg (fun z => some (Value.int z)) (by unfold f5_3; rw [if_pos c9, if_neg c21]), N, rfl⟩
    · skip
      refine own_iloadN X hx hby (3 : Int32) d5_24 rfl 25 rfl ?_
      refine own_iconst X hx hby (3 : Int32) d5_25 rfl 26 rfl ?_
      have c26 : ¬ (3 : Int32) < (3 : Int32) := by decide
      refine own_icmp_lt X hx hby d5_26 37 29 (by decide) rfl (fun q => absurd q c26) (fun _ => ?_)
      refine own_aloadN X hx hby (.ref a1) d5_29 rfl rfl 30 rfl ?_
      refine own_iconst X hx hby (2 : Int32) d5_30 rfl 31 rfl ?_
      refine own_baload X hx hby hZ (ar_a1 2) eT A_a1 (by decide) rfl d5_31 32 rfl ?_
      refine own_iload X hx hby p5 d5_32 rfl 34 rfl ?_
      refine own_icmp_ne X hx hby d5_34 41 37 (by decide) rfl (fun c34 => ?_) (fun c34 => ?_)
      · skip
        refine own_iconst X hx hby (0 : Int32) d5_41 rfl 42 rfl ?_
        refine own_retN X hx hby hret hlk (t := .boolean) (z' := (0 : Int32)) (by simp) d5_42 (by decide) (by decide) rfl ?_
        rw [eT]
        exact ⟨congrArg (fun z => some (Value.int z)) (by unfold f5_3; rw [if_pos c9, if_pos c21, if_neg c34]), N, rfl⟩
      · skip
        refine own_iconst X hx hby (1 : Int32) d5_37 rfl 38 rfl ?_
        refine own_goto X hx hby d5_38 42 (by decide) ?_
        refine own_retN X hx hby hret hlk (t := .boolean) (z' := (1 : Int32)) (by simp) d5_42 (by decide) (by decide) rfl ?_
        rw [eT]
        exact ⟨congrArg (fun z => some (Value.int z)) (by unfold f5_3; rw [if_pos c9, if_pos c21, if_pos c34]), N, rfl⟩
theorem ef_0 (p1 : Int32) (p2 : Int32) (p3 : Int32) (p4 : Int32) (m : MethodId) : entryFrame m #[(.int p1), (.int p2), (.int p3), (.int p4)] maxLocals = mkF m 0 #[.val (.int p1), .val (.int p2), .val (.int p3), .val (.int p4), .unset, .unset, .unset, .unset, .unset, .unset, .unset, .unset, .unset] [] := by first | (simp [entryFrame, mkF, argsToLocals, Value.category, maxLocals]; done) | rfl
def Q0 (Z : State) (p1 : Int32) (p2 : Int32) (p3 : Int32) (p4 : Int32) (h0 : Heap) (n0 : Nat) (v : Option Value) (h : Heap) (L : List Loc) : Prop := v = some (.int (1 : Int32)) ∧ Fr n0 L
theorem own_four (z v : Int32) (e : (z &&& (3 : Int32)) = v) : v = (0 : Int32) ∨ v = (1 : Int32) ∨ v = (2 : Int32) ∨ v = (3 : Int32) := by
  have h := c_mask z (3 : Int32) 2 (by decide) (by decide)
  rw [e] at h
  simp only [← Int32.toInt_inj, Int32.reduceToInt]
  omega
theorem own_nn (z v : Int32) (e : z.toInt8.toInt32 = v) : nar .byte v = v := by
  subst e
  show z.toInt8.toInt32.toInt8.toInt32 = z.toInt8.toInt32
  rw [Int8.toInt8_toInt32]
set_option maxRecDepth 65536 in
set_option maxHeartbeats 40000000 in
theorem rm0 (l : Launch) (Z : State) (a0 : Array Value) (hw : ∀ d ∈ tables_1, d.before a0 Z = true) (p1 : Int32) (p2 : Int32) (p3 : Int32) (p4 : Int32) (h0 : Heap) (n0 : Nat) (Zs : n0 ≤ h0.size) :
    Met1 l Z x code maxLocals ret room_1 #[(.int p1), (.int p2), (.int p3), (.int p4)] h0 (Q0 Z p1 p2 p3 p4 h0 n0) := by
  refine own_met_of (plainFor_of_name pn_5) (ef_0 p1 p2 p3 p4) ?_
  intro p e s m below meth c s₁ X hx hby hml hZ hown hnm hret hlk eT
  have hown : s.vm.findClass "com/example/inflight/inflight/AttributeValueBinaryValuePinLaw" = some m.cls := hown
  have N := Fr.nil n0
  have K := Keep.refl h0 []
  refine own_iloadN X hx hby p4 at_0 rfl 1 rfl ?_
  refine own_iconst X hx hby (3 : Int32) at_1 rfl 2 rfl ?_
  refine own_iand X hx hby at_2 3 rfl ?_
  obtain ⟨v3, e3⟩ : ∃ z : Int32, (p4 &&& (3 : Int32)) = z := ⟨_, rfl⟩
  refine own_istore X hx hby at_3 e3 (l' := #[.val (.int p1), .val (.int p2), .val (.int p3), .val (.int p4), .val (.int v3), .unset, .unset, .unset, .unset, .unset, .unset, .unset, .unset]) rfl 5 rfl ?_
  rcases (own_four _ _ e3 : v3 = (0 : Int32) ∨ v3 = (1 : Int32) ∨ v3 = (2 : Int32) ∨ v3 = (3 : Int32)) with rfl | rfl | rfl | rfl
  · skip
    refine own_iloadN X hx hby p4 at_5 rfl 6 rfl ?_
    refine own_iconst X hx hby (4 : Int32) at_6 rfl 7 rfl ?_
    refine own_iand X hx hby at_7 8 rfl ?_
    refine own_if_eq X hx hby at_8 15 11 (by decide) rfl (fun c8 => ?_) (fun c8 => ?_)
    · skip
      refine own_iconst X hx hby (0 : Int32) at_15 rfl 16 rfl ?_
      refine own_istore X hx hby at_16 rfl (l' := #[.val (.int p1), .val (.int p2), .val (.int p3), .val (.int p4), .val (.int (0 : Int32)), .val (.int (0 : Int32)), .unset, .unset, .unset, .unset, .unset, .unset, .unset]) rfl 18 rfl ?_
      refine own_iloadN X hx hby p1 at_18 rfl 19 rfl ?_
      refine own_i2b X hx hby at_19 20 rfl ?_
      obtain ⟨v20, e20⟩ : ∃ z : Int32, (p1.toInt8.toInt32) = z := ⟨_, rfl⟩
      refine own_istore X hx hby at_20 e20 (l' := #[.val (.int p1), .val (.int p2), .val (.int p3), .val (.int p4), .val (.int (0 : Int32)), .val (.int (0 : Int32)), .val (.int v20), .unset, .unset, .unset, .unset, .unset, .unset]) rfl 22 rfl ?_
      refine own_iloadN X hx hby p2 at_22 rfl 23 rfl ?_
      refine own_i2b X hx hby at_23 24 rfl ?_
      obtain ⟨v24, e24⟩ : ∃ z : Int32, (p2.toInt8.toInt32) = z := ⟨_, rfl⟩
      refine own_istore X hx hby at_24 e24 (l' := #[.val (.int p1), .val (.int p2), .val (.int p3), .val (.int p4), .val (.int (0 : Int32)), .val (.int (0 : Int32)), .val (.int v20), .val (.int v24), .unset, .unset, .unset, .unset, .unset]) rfl 26 rfl ?_
      refine own_iloadN X hx hby p3 at_26 rfl 27 rfl ?_
      refine own_i2b X hx hby at_27 28 rfl ?_
      obtain ⟨v28, e28⟩ : ∃ z : Int32, (p3.toInt8.toInt32) = z := ⟨_, rfl⟩
      refine own_istore X hx hby at_28 e28 (l' := #[.val (.int p1), .val (.int p2), .val (.int p3), .val (.int p4), .val (.int (0 : Int32)), .val (.int (0 : Int32)), .val (.int v20), .val (.int v24), .val (.int v28), .unset, .unset, .unset, .unset]) rfl 30 rfl ?_
      refine own_aconstNull X hx hby at_30 31 rfl ?_
      refine own_astore X hx hby at_31 rfl (l' := #[.val (.int p1), .val (.int p2), .val (.int p3), .val (.int p4), .val (.int (0 : Int32)), .val (.int (0 : Int32)), .val (.int v20), .val (.int v24), .val (.int v28), .val .null, .unset, .unset, .unset]) rfl 33 rfl ?_
      refine own_iload X hx hby (0 : Int32) at_33 rfl 35 rfl ?_
      have c35 : (0 : Int32) = (0 : Int32) := by decide
      refine own_if_ne X hx hby at_35 114 38 (by decide) rfl (fun q => absurd c35 q) (fun _ => ?_)
      refine own_iload X hx hby (0 : Int32) at_38 rfl 40 rfl ?_
      have c40 : (0 : Int32) = (0 : Int32) := by decide
      refine own_if_ne X hx hby at_40 51 43 (by decide) rfl (fun q => absurd c40 q) (fun _ => ?_)
      refine own_iconst X hx hby (0 : Int32) at_43 rfl 44 rfl ?_
      refine own_newarray X hx hby hZ (hw _ (List.mem_of_getElem? (i := 0) rfl)) eT at_44 (z := (0 : Int32)) (by decide) (n := 0) rfl (cap := 0) (by decide) (by decide) (by decide) (by decide) (ad := "[B") rfl 46 rfl ?_
      intro T44 h44 b44 gb44 X eT Ex A A2
      have g_b44 : n0 ≤ b44 := by rw [gb44]; exact Zs
      have sz_b44 : h0.size ≤ b44 := by rw [gb44]; exact K.1
      have A_b44 : Afi Z h44 b44 .byte 0 (fun _ => (0 : Int32)) := A
      have E_b44 := A2
      have K := K.ext Ex
      have Zs := Nat.le_trans Zs Ex.1
      refine own_astore X hx hby at_46 rfl (l' := #[.val (.int p1), .val (.int p2), .val (.int p3), .val (.int p4), .val (.int (0 : Int32)), .val (.int (0 : Int32)), .val (.int v20), .val (.int v24), .val (.int v28), .val (.ref b44), .unset, .unset, .unset]) rfl 48 rfl ?_
      refine own_goto X hx hby at_48 114 (by decide) ?_
      refine own_new X hx hby hZ hown (hw _ (List.mem_of_getElem? (i := 1) rfl)) (hw _ (List.mem_of_getElem? (i := 2) rfl)) (hw _ (List.mem_of_getElem? (i := 3) rfl)) eT at_114 (by decide) (by decide) 117 rfl ?_
      intro T114 h114 b114 gb114 X eT Ex A D
      have g_b114 : n0 ≤ b114 := by rw [gb114]; exact Zs
      have sz_b114 : h0.size ≤ b114 := by rw [gb114]; exact K.1
      have ne_b44_b114 : b44 ≠ b114 := Nat.ne_of_lt (by rw [gb114]; exact A_b44.lt)
      have A_b44 := A_b44.ext Ex
      have E_b44 := E_b44.ext Ex
      have E_b114 := A
      have F_dataType_b114 : Fld Z h114 b114 "com/example/inflight/inflight/AttributeValue" "dataType" "Ljava/lang/String;" .null := D (Or.inr (hw _ (List.mem_of_getElem? (i := 25) rfl))) (ty := (.object "java/lang/String")) (by decide)
      have F_stringValue_b114 : Fld Z h114 b114 "com/example/inflight/inflight/AttributeValue" "stringValue" "Ljava/lang/String;" .null := D (Or.inr (hw _ (List.mem_of_getElem? (i := 27) rfl))) (ty := (.object "java/lang/String")) (by decide)
      have F_binaryValue_b114 : Fld Z h114 b114 "com/example/inflight/inflight/AttributeValue" "binaryValue" "[B" .null := D (Or.inr (hw _ (List.mem_of_getElem? (i := 29) rfl))) (ty := (.array .byte)) (by decide)
      have K := K.ext Ex
      have Zs := Nat.le_trans Zs Ex.1
      refine own_dup X hx hby at_117 rfl 118 rfl ?_
      refine own_aconstNull X hx hby at_118 119 rfl ?_
      refine own_aconstNull X hx hby at_119 120 rfl ?_
      refine own_aload X hx hby (.ref b44) at_120 rfl rfl 122 rfl ?_
      refine own_callC X hx hby hZ (st := [(.ref b114)]) [.null, .null, (.ref b44)] rfl rfl hown (hw _ (List.mem_of_getElem? (i := 4) rfl)) (hw _ (List.mem_of_getElem? (i := 5) rfl)) (hw _ (List.mem_of_getElem? (i := 3) rfl)) (hw _ (List.mem_of_getElem? (i := 6) rfl)) (by decide) at_122 (rm1_0 l Z a0 hw b114 b44 (fun _ => (0 : Int32)) h114 n0 Zs A_b44 E_b44 E_b114 F_dataType_b114 F_stringValue_b114 F_binaryValue_b114 g_b114) eT pd_3 rfl (by rw [hml]; rfl) (by decide) 1 rfl (by decide) (by decide) (by decide) 125 rfl ?_
      intro T122 L9 v9 X hQ
      obtain ⟨h122, eT⟩ : ∃ z, T122.heap = z := ⟨_, rfl⟩
      rw [eT] at hQ
      have lt_b114 := E_b114.lt
      have lt_b44 := A_b44.lt
      obtain ⟨b122b13, rfl, N9, Kc, hs_b122b13, E_b114, F_dataType_b114, F_stringValue_b114, F_binaryValue_b114, A_b122b13, E_b122b13⟩ := hQ
      have g_b122b13 : n0 ≤ b122b13 := Nat.le_trans Zs hs_b122b13
      have sz_b122b13 : h0.size ≤ b122b13 := Nat.le_trans K.1 hs_b122b13
      have ne_b114_b122b13 : b114 ≠ b122b13 := Nat.ne_of_lt (Nat.lt_of_lt_of_le lt_b114 hs_b122b13)
      have ne_b44_b122b13 : b44 ≠ b122b13 := Nat.ne_of_lt (Nat.lt_of_lt_of_le lt_b44 hs_b122b13)
      have A_b44 := A_b44.keep Kc (ninS ne_b44_b114 nin0)
      have E_b44 := E_b44.keep Kc
      obtain ⟨ar122, ear122⟩ : ∃ z : Nat → Int32, (fun _ => (0 : Int32)) = z := ⟨_, rfl⟩
      rw [ear122] at A_b122b13
      have K := K.trans Kc (allS (Or.inr sz_b114) all0)
      have Zs := Nat.le_trans Zs Kc.1
      have N := Fr.app N N9
      show Go p e below _ T122 (mkF m 125 #[.val (.int p1), .val (.int p2), .val (.int p3), .val (.int p4), .val (.int (0 : Int32)), .val (.int (0 : Int32)), .val (.int v20), .val (.int v24), .val (.int v28), .val (.ref b44), .unset, .unset, .unset] [(.ref b114)])
      refine own_astore X hx hby at_125 rfl (l' := #[.val (.int p1), .val (.int p2), .val (.int p3), .val (.int p4), .val (.int (0 : Int32)), .val (.int (0 : Int32)), .val (.int v20), .val (.int v24), .val (.int v28), .val (.ref b44), .val (.ref b114), .unset, .unset]) rfl 127 rfl ?_
      refine own_aload X hx hby (.ref b114) at_127 rfl rfl 129 rfl ?_
      refine own_callV X hx hby hZ (st := []) [] rfl hown (hw _ (List.mem_of_getElem? (i := 30) rfl)) (hw _ (List.mem_of_getElem? (i := 31) rfl)) (hw _ (List.mem_of_getElem? (i := 33) rfl)) (hw _ (List.mem_of_getElem? (i := 32) rfl)) (hw _ (List.mem_of_getElem? (i := 3) rfl)) (hw _ (List.mem_of_getElem? (i := 34) rfl)) E_b114 (by decide) at_129 (rm4_0 l Z a0 hw b114 b122b13 ar122 h122 n0 Zs A_b122b13 E_b122b13 F_binaryValue_b114) eT pd_2 rfl (by rw [hml]; rfl) (by decide) 0 rfl (by decide) (by decide) (by decide) 132 rfl ?_
      intro T129 L9 v9 X hQ
      obtain ⟨h129, eT⟩ : ∃ z, T129.heap = z := ⟨_, rfl⟩
      rw [eT] at hQ
      have lt_b114 := E_b114.lt
      have lt_b122b13 := A_b122b13.lt
      have lt_b44 := A_b44.lt
      obtain ⟨b129b15, rfl, N9, Kc, hs_b129b15, A_b129b15, E_b129b15⟩ := hQ
      have g_b129b15 : n0 ≤ b129b15 := Nat.le_trans Zs hs_b129b15
      have sz_b129b15 : h0.size ≤ b129b15 := Nat.le_trans K.1 hs_b129b15
      have ne_b114_b129b15 : b114 ≠ b129b15 := Nat.ne_of_lt (Nat.lt_of_lt_of_le lt_b114 hs_b129b15)
      have ne_b122b13_b129b15 : b122b13 ≠ b129b15 := Nat.ne_of_lt (Nat.lt_of_lt_of_le lt_b122b13 hs_b129b15)
      have ne_b44_b129b15 : b44 ≠ b129b15 := Nat.ne_of_lt (Nat.lt_of_lt_of_le lt_b44 hs_b129b15)
      have A_b44 := A_b44.keep Kc nin0
      have E_b44 := E_b44.keep Kc
      have E_b114 := E_b114.keep Kc
      have F_dataType_b114 := F_dataType_b114.keep Kc nin0
      have F_stringValue_b114 := F_stringValue_b114.keep Kc nin0
      have F_binaryValue_b114 := F_binaryValue_b114.keep Kc nin0
      have A_b122b13 := A_b122b13.keep Kc nin0
      have E_b122b13 := E_b122b13.keep Kc
      have K := K.trans Kc all0
      have Zs := Nat.le_trans Zs Kc.1
      have N := Fr.app N N9
      show Go p e below _ T129 (mkF m 132 #[.val (.int p1), .val (.int p2), .val (.int p3), .val (.int p4), .val (.int (0 : Int32)), .val (.int (0 : Int32)), .val (.int v20), .val (.int v24), .val (.int v28), .val (.ref b44), .val (.ref b114), .unset, .unset] [(.ref b129b15)])
      refine own_astore X hx hby at_132 rfl (l' := #[.val (.int p1), .val (.int p2), .val (.int p3), .val (.int p4), .val (.int (0 : Int32)), .val (.int (0 : Int32)), .val (.int v20), .val (.int v24), .val (.int v28), .val (.ref b44), .val (.ref b114), .val (.ref b129b15), .unset]) rfl 134 rfl ?_
      refine own_iload X hx hby (0 : Int32) at_134 rfl 136 rfl ?_
      have c136 : (0 : Int32) = (0 : Int32) := by decide
      refine own_if_eq X hx hby at_136 158 139 (by decide) rfl (fun _ => ?_) (fun q => absurd c136 q)
      refine own_aload X hx hby (.ref b129b15) at_158 rfl rfl 160 rfl ?_
      refine own_ifnullN X hx hby at_160 163 rfl ?_
      refine own_aload X hx hby (.ref b129b15) at_163 rfl rfl 165 rfl ?_
      refine own_aload X hx hby (.ref b44) at_165 rfl rfl 167 rfl ?_
      refine own_acmp X hx hby false at_167 rfl rfl (decide_eq_false fun q => (Ne.symm ne_b44_b129b15) (Value.ref.inj q)) (by decide) 170 (by decide) ?_
      refine own_aload X hx hby (.ref b129b15) at_170 rfl rfl 172 rfl ?_
      refine own_arraylength X hx hby hZ (0 : Int32) eT A_b129b15 rfl at_172 173 rfl ?_
      refine own_iload X hx hby (0 : Int32) at_173 rfl 175 rfl ?_
      have c175 : (0 : Int32) = (0 : Int32) := by decide
      refine own_icmp_eq X hx hby at_175 180 178 (by decide) rfl (fun _ => ?_) (fun q => absurd c175 q)
      refine own_aload X hx hby (.ref b129b15) at_180 rfl rfl 182 rfl ?_
      refine own_iload X hx hby (0 : Int32) at_182 rfl 184 rfl ?_
      refine own_iload X hx hby v20 at_184 rfl 186 rfl ?_
      refine own_iload X hx hby v24 at_186 rfl 188 rfl ?_
      refine own_iload X hx hby v28 at_188 rfl 190 rfl ?_
      refine own_callS X hx hby hZ (st := []) [(.ref b129b15), (.int (0 : Int32)), (.int v20), (.int v24), (.int v28)] rfl hown (hw _ (List.mem_of_getElem? (i := 35) rfl)) (hw _ (List.mem_of_getElem? (i := 36) rfl)) (hw _ (List.mem_of_getElem? (i := 37) rfl)) (hw _ (List.mem_of_getElem? (i := 38) rfl)) (by decide) at_190 (rm5_0 l Z a0 hw b129b15 v20 v24 v28 ar122 h129 n0 Zs A_b129b15 E_b129b15) eT pd_4 rfl (by rw [hml]; rfl) (by decide) 0 rfl (by decide) (by decide) (by decide) 193 rfl ?_
      intro T190 L9 v9 X hQ
      obtain ⟨rfl, N9, eT⟩ := hQ
      have N := Fr.app N N9
      show Go p e below _ T190 (mkF m 193 #[.val (.int p1), .val (.int p2), .val (.int p3), .val (.int p4), .val (.int (0 : Int32)), .val (.int (0 : Int32)), .val (.int v20), .val (.int v24), .val (.int v28), .val (.ref b44), .val (.ref b114), .val (.ref b129b15), .unset] [(.int (1 : Int32))])
      have c193 : ¬ (1 : Int32) = (0 : Int32) := by decide
      refine own_if_ne X hx hby at_193 198 196 (by decide) rfl (fun _ => ?_) (fun q => absurd q c193)
      refine own_iload X hx hby (0 : Int32) at_198 rfl 200 rfl ?_
      have c200 : ¬ (0 : Int32) < (0 : Int32) := by decide
      refine own_if_le X hx hby at_200 221 203 (by decide) rfl (fun _ => ?_) (fun q => absurd q c200)
      refine own_iload X hx hby (0 : Int32) at_221 rfl 223 rfl ?_
      refine own_iconst X hx hby (1 : Int32) at_223 rfl 224 rfl ?_
      have c224 : ¬ (1 : Int32) < (0 : Int32) := by decide
      refine own_icmp_le X hx hby at_224 245 227 (by decide) rfl (fun _ => ?_) (fun q => absurd q c224)
      refine own_iload X hx hby (0 : Int32) at_245 rfl 247 rfl ?_
      refine own_iconst X hx hby (2 : Int32) at_247 rfl 248 rfl ?_
      have c248 : ¬ (2 : Int32) < (0 : Int32) := by decide
      refine own_icmp_le X hx hby at_248 269 251 (by decide) rfl (fun _ => ?_) (fun q => absurd q c248)
      refine own_aload X hx hby (.ref b114) at_269 rfl rfl 271 rfl ?_
      refine own_callV X hx hby hZ (st := []) [] rfl hown (hw _ (List.mem_of_getElem? (i := 30) rfl)) (hw _ (List.mem_of_getElem? (i := 31) rfl)) (hw _ (List.mem_of_getElem? (i := 33) rfl)) (hw _ (List.mem_of_getElem? (i := 32) rfl)) (hw _ (List.mem_of_getElem? (i := 3) rfl)) (hw _ (List.mem_of_getElem? (i := 34) rfl)) E_b114 (by decide) at_271 (rm4_0 l Z a0 hw b114 b122b13 ar122 h129 n0 Zs A_b122b13 E_b122b13 F_binaryValue_b114) eT pd_2 rfl (by rw [hml]; rfl) (by decide) 0 rfl (by decide) (by decide) (by decide) 274 rfl ?_
      intro T271 L9 v9 X hQ
      obtain ⟨h271, eT⟩ : ∃ z, T271.heap = z := ⟨_, rfl⟩
      rw [eT] at hQ
      have lt_b114 := E_b114.lt
      have lt_b122b13 := A_b122b13.lt
      have lt_b129b15 := A_b129b15.lt
      have lt_b44 := A_b44.lt
      obtain ⟨b271b15, rfl, N9, Kc, hs_b271b15, A_b271b15, E_b271b15⟩ := hQ
      have g_b271b15 : n0 ≤ b271b15 := Nat.le_trans Zs hs_b271b15
      have sz_b271b15 : h0.size ≤ b271b15 := Nat.le_trans K.1 hs_b271b15
      have ne_b114_b271b15 : b114 ≠ b271b15 := Nat.ne_of_lt (Nat.lt_of_lt_of_le lt_b114 hs_b271b15)
      have ne_b122b13_b271b15 : b122b13 ≠ b271b15 := Nat.ne_of_lt (Nat.lt_of_lt_of_le lt_b122b13 hs_b271b15)
      have ne_b129b15_b271b15 : b129b15 ≠ b271b15 := Nat.ne_of_lt (Nat.lt_of_lt_of_le lt_b129b15 hs_b271b15)
      have ne_b44_b271b15 : b44 ≠ b271b15 := Nat.ne_of_lt (Nat.lt_of_lt_of_le lt_b44 hs_b271b15)
      have A_b44 := A_b44.keep Kc nin0
      have E_b44 := E_b44.keep Kc
      have E_b114 := E_b114.keep Kc
      have F_dataType_b114 := F_dataType_b114.keep Kc nin0
      have F_stringValue_b114 := F_stringValue_b114.keep Kc nin0
      have F_binaryValue_b114 := F_binaryValue_b114.keep Kc nin0
      have A_b122b13 := A_b122b13.keep Kc nin0
      have E_b122b13 := E_b122b13.keep Kc
      have A_b129b15 := A_b129b15.keep Kc nin0
      have E_b129b15 := E_b129b15.keep Kc
      have K := K.trans Kc all0
      have Zs := Nat.le_trans Zs Kc.1
      have N := Fr.app N N9
      show Go p e below _ T271 (mkF m 274 #[.val (.int p1), .val (.int p2), .val (.int p3), .val (.int p4), .val (.int (0 : Int32)), .val (.int (0 : Int32)), .val (.int v20), .val (.int v24), .val (.int v28), .val (.ref b44), .val (.ref b114), .val (.ref b129b15), .unset] [(.ref b271b15)])
      refine own_astore X hx hby at_274 rfl (l' := #[.val (.int p1), .val (.int p2), .val (.int p3), .val (.int p4), .val (.int (0 : Int32)), .val (.int (0 : Int32)), .val (.int v20), .val (.int v24), .val (.int v28), .val (.ref b44), .val (.ref b114), .val (.ref b129b15), .val (.ref b271b15)]) rfl 276 rfl ?_
      refine own_aload X hx hby (.ref b271b15) at_276 rfl rfl 278 rfl ?_
      refine own_ifnullN X hx hby at_278 281 rfl ?_
      refine own_aload X hx hby (.ref b271b15) at_281 rfl rfl 283 rfl ?_
      refine own_aload X hx hby (.ref b129b15) at_283 rfl rfl 285 rfl ?_
      refine own_acmp X hx hby false at_285 rfl rfl (decide_eq_false fun q => (Ne.symm ne_b129b15_b271b15) (Value.ref.inj q)) (by decide) 288 (by decide) ?_
      refine own_aload X hx hby (.ref b271b15) at_288 rfl rfl 290 rfl ?_
      refine own_aload X hx hby (.ref b44) at_290 rfl rfl 292 rfl ?_
      refine own_acmp X hx hby false at_292 rfl rfl (decide_eq_false fun q => (Ne.symm ne_b44_b271b15) (Value.ref.inj q)) (by decide) 295 (by decide) ?_
      refine own_aload X hx hby (.ref b271b15) at_295 rfl rfl 297 rfl ?_
      refine own_arraylength X hx hby hZ (0 : Int32) eT A_b271b15 rfl at_297 298 rfl ?_
      refine own_iload X hx hby (0 : Int32) at_298 rfl 300 rfl ?_
      have c300 : (0 : Int32) = (0 : Int32) := by decide
      refine own_icmp_ne X hx hby at_300 323 303 (by decide) rfl (fun q => absurd c300 q) (fun _ => ?_)
      refine own_aload X hx hby (.ref b271b15) at_303 rfl rfl 305 rfl ?_
      refine own_iload X hx hby (0 : Int32) at_305 rfl 307 rfl ?_
      refine own_iload X hx hby v20 at_307 rfl 309 rfl ?_
      refine own_iload X hx hby v24 at_309 rfl 311 rfl ?_
      refine own_iload X hx hby v28 at_311 rfl 313 rfl ?_
      refine own_callS X hx hby hZ (st := []) [(.ref b271b15), (.int (0 : Int32)), (.int v20), (.int v24), (.int v28)] rfl hown (hw _ (List.mem_of_getElem? (i := 35) rfl)) (hw _ (List.mem_of_getElem? (i := 36) rfl)) (hw _ (List.mem_of_getElem? (i := 37) rfl)) (hw _ (List.mem_of_getElem? (i := 38) rfl)) (by decide) at_313 (rm5_0 l Z a0 hw b271b15 v20 v24 v28 ar122 h271 n0 Zs A_b271b15 E_b271b15) eT pd_4 rfl (by rw [hml]; rfl) (by decide) 0 rfl (by decide) (by decide) (by decide) 316 rfl ?_
      intro T313 L9 v9 X hQ
      obtain ⟨rfl, N9, eT⟩ := hQ
      have N := Fr.app N N9
      show Go p e below _ T313 (mkF m 316 #[.val (.int p1), .val (.int p2), .val (.int p3), .val (.int p4), .val (.int (0 : Int32)), .val (.int (0 : Int32)), .val (.int v20), .val (.int v24), .val (.int v28), .val (.ref b44), .val (.ref b114), .val (.ref b129b15), .val (.ref b271b15)] [(.int (1 : Int32))])
      have c316 : ¬ (1 : Int32) = (0 : Int32) := by decide
      refine own_if_eq X hx hby at_316 323 319 (by decide) rfl (fun q => absurd q c316) (fun _ => ?_)
      refine own_iconst X hx hby (1 : Int32) at_319 rfl 320 rfl ?_
      refine own_goto X hx hby at_320 324 (by decide) ?_
      refine own_retN X hx hby hret hlk (t := .boolean) (z' := (1 : Int32)) (by simp) at_324 (by decide) (by decide) rfl ?_
      rw [eT]
      exact ⟨rfl, N⟩
    · skip
      refine own_iconst X hx hby (1 : Int32) at_11 rfl 12 rfl ?_
      refine own_goto X hx hby at_12 16 (by decide) ?_
      refine own_istore X hx hby at_16 rfl (l' := #[.val (.int p1), .val (.int p2), .val (.int p3), .val (.int p4), .val (.int (0 : Int32)), .val (.int (1 : Int32)), .unset, .unset, .unset, .unset, .unset, .unset, .unset]) rfl 18 rfl ?_
      refine own_iloadN X hx hby p1 at_18 rfl 19 rfl ?_
      refine own_i2b X hx hby at_19 20 rfl ?_
      obtain ⟨v20, e20⟩ : ∃ z : Int32, (p1.toInt8.toInt32) = z := ⟨_, rfl⟩
      refine own_istore X hx hby at_20 e20 (l' := #[.val (.int p1), .val (.int p2), .val (.int p3), .val (.int p4), .val (.int (0 : Int32)), .val (.int (1 : Int32)), .val (.int v20), .unset, .unset, .unset, .unset, .unset, .unset]) rfl 22 rfl ?_
      refine own_iloadN X hx hby p2 at_22 rfl 23 rfl ?_
      refine own_i2b X hx hby at_23 24 rfl ?_
      obtain ⟨v24, e24⟩ : ∃ z : Int32, (p2.toInt8.toInt32) = z := ⟨_, rfl⟩
      refine own_istore X hx hby at_24 e24 (l' := #[.val (.int p1), .val (.int p2), .val (.int p3), .val (.int p4), .val (.int (0 : Int32)), .val (.int (1 : Int32)), .val (.int v20), .val (.int v24), .unset, .unset, .unset, .unset, .unset]) rfl 26 rfl ?_
      refine own_iloadN X hx hby p3 at_26 rfl 27 rfl ?_
      refine own_i2b X hx hby at_27 28 rfl ?_
      obtain ⟨v28, e28⟩ : ∃ z : Int32, (p3.toInt8.toInt32) = z := ⟨_, rfl⟩
      refine own_istore X hx hby at_28 e28 (l' := #[.val (.int p1), .val (.int p2), .val (.int p3), .val (.int p4), .val (.int (0 : Int32)), .val (.int (1 : Int32)), .val (.int v20), .val (.int v24), .val (.int v28), .unset, .unset, .unset, .unset]) rfl 30 rfl ?_
      refine own_aconstNull X hx hby at_30 31 rfl ?_
      refine own_astore X hx hby at_31 rfl (l' := #[.val (.int p1), .val (.int p2), .val (.int p3), .val (.int p4), .val (.int (0 : Int32)), .val (.int (1 : Int32)), .val (.int v20), .val (.int v24), .val (.int v28), .val .null, .unset, .unset, .unset]) rfl 33 rfl ?_
      refine own_iload X hx hby (1 : Int32) at_33 rfl 35 rfl ?_
      have c35 : ¬ (1 : Int32) = (0 : Int32) := by decide
      refine own_if_ne X hx hby at_35 114 38 (by decide) rfl (fun _ => ?_) (fun q => absurd q c35)
      refine own_new X hx hby hZ hown (hw _ (List.mem_of_getElem? (i := 1) rfl)) (hw _ (List.mem_of_getElem? (i := 2) rfl)) (hw _ (List.mem_of_getElem? (i := 3) rfl)) eT at_114 (by decide) (by decide) 117 rfl ?_
      intro T114 h114 b114 gb114 X eT Ex A D
      have g_b114 : n0 ≤ b114 := by rw [gb114]; exact Zs
      have sz_b114 : h0.size ≤ b114 := by rw [gb114]; exact K.1
      have E_b114 := A
      have F_dataType_b114 : Fld Z h114 b114 "com/example/inflight/inflight/AttributeValue" "dataType" "Ljava/lang/String;" .null := D (Or.inr (hw _ (List.mem_of_getElem? (i := 25) rfl))) (ty := (.object "java/lang/String")) (by decide)
      have F_stringValue_b114 : Fld Z h114 b114 "com/example/inflight/inflight/AttributeValue" "stringValue" "Ljava/lang/String;" .null := D (Or.inr (hw _ (List.mem_of_getElem? (i := 27) rfl))) (ty := (.object "java/lang/String")) (by decide)
      have F_binaryValue_b114 : Fld Z h114 b114 "com/example/inflight/inflight/AttributeValue" "binaryValue" "[B" .null := D (Or.inr (hw _ (List.mem_of_getElem? (i := 29) rfl))) (ty := (.array .byte)) (by decide)
      have K := K.ext Ex
      have Zs := Nat.le_trans Zs Ex.1
      refine own_dup X hx hby at_117 rfl 118 rfl ?_
      refine own_aconstNull X hx hby at_118 119 rfl ?_
      refine own_aconstNull X hx hby at_119 120 rfl ?_
      refine own_aload X hx hby .null at_120 rfl rfl 122 rfl ?_
      refine own_callC X hx hby hZ (st := [(.ref b114)]) [.null, .null, .null] rfl rfl hown (hw _ (List.mem_of_getElem? (i := 4) rfl)) (hw _ (List.mem_of_getElem? (i := 5) rfl)) (hw _ (List.mem_of_getElem? (i := 3) rfl)) (hw _ (List.mem_of_getElem? (i := 6) rfl)) (by decide) at_122 (rm1_n l Z a0 hw b114 h114 n0 Zs E_b114 F_dataType_b114 F_stringValue_b114 F_binaryValue_b114 g_b114) eT pd_3 rfl (by rw [hml]; rfl) (by decide) 1 rfl (by decide) (by decide) (by decide) 125 rfl ?_
      intro T122 L9 v9 X hQ
      obtain ⟨h122, eT⟩ : ∃ z, T122.heap = z := ⟨_, rfl⟩
      rw [eT] at hQ
      obtain ⟨rfl, N9, Kc, E_b114, F_dataType_b114, F_stringValue_b114, F_binaryValue_b114⟩ := hQ
      have K := K.trans Kc (allS (Or.inr sz_b114) all0)
      have Zs := Nat.le_trans Zs Kc.1
      have N := Fr.app N N9
      show Go p e below _ T122 (mkF m 125 #[.val (.int p1), .val (.int p2), .val (.int p3), .val (.int p4), .val (.int (0 : Int32)), .val (.int (1 : Int32)), .val (.int v20), .val (.int v24), .val (.int v28), .val .null, .unset, .unset, .unset] [(.ref b114)])
      refine own_astore X hx hby at_125 rfl (l' := #[.val (.int p1), .val (.int p2), .val (.int p3), .val (.int p4), .val (.int (0 : Int32)), .val (.int (1 : Int32)), .val (.int v20), .val (.int v24), .val (.int v28), .val .null, .val (.ref b114), .unset, .unset]) rfl 127 rfl ?_
      refine own_aload X hx hby (.ref b114) at_127 rfl rfl 129 rfl ?_
      refine own_callV X hx hby hZ (st := []) [] rfl hown (hw _ (List.mem_of_getElem? (i := 30) rfl)) (hw _ (List.mem_of_getElem? (i := 31) rfl)) (hw _ (List.mem_of_getElem? (i := 33) rfl)) (hw _ (List.mem_of_getElem? (i := 32) rfl)) (hw _ (List.mem_of_getElem? (i := 3) rfl)) (hw _ (List.mem_of_getElem? (i := 34) rfl)) E_b114 (by decide) at_129 (rm4_n l Z a0 hw b114 h122 n0 Zs F_binaryValue_b114) eT pd_2 rfl (by rw [hml]; rfl) (by decide) 0 rfl (by decide) (by decide) (by decide) 132 rfl ?_
      intro T129 L9 v9 X hQ
      obtain ⟨rfl, N9, eT⟩ := hQ
      have N := Fr.app N N9
      show Go p e below _ T129 (mkF m 132 #[.val (.int p1), .val (.int p2), .val (.int p3), .val (.int p4), .val (.int (0 : Int32)), .val (.int (1 : Int32)), .val (.int v20), .val (.int v24), .val (.int v28), .val .null, .val (.ref b114), .unset, .unset] [.null])
      refine own_astore X hx hby at_132 rfl (l' := #[.val (.int p1), .val (.int p2), .val (.int p3), .val (.int p4), .val (.int (0 : Int32)), .val (.int (1 : Int32)), .val (.int v20), .val (.int v24), .val (.int v28), .val .null, .val (.ref b114), .val .null, .unset]) rfl 134 rfl ?_
      refine own_iload X hx hby (1 : Int32) at_134 rfl 136 rfl ?_
      have c136 : ¬ (1 : Int32) = (0 : Int32) := by decide
      refine own_if_eq X hx hby at_136 158 139 (by decide) rfl (fun q => absurd q c136) (fun _ => ?_)
      refine own_aload X hx hby .null at_139 rfl rfl 141 rfl ?_
      refine own_ifnonnullN X hx hby at_141 144 rfl ?_
      refine own_aload X hx hby (.ref b114) at_144 rfl rfl 146 rfl ?_
      refine own_callV X hx hby hZ (st := []) [] rfl hown (hw _ (List.mem_of_getElem? (i := 30) rfl)) (hw _ (List.mem_of_getElem? (i := 31) rfl)) (hw _ (List.mem_of_getElem? (i := 33) rfl)) (hw _ (List.mem_of_getElem? (i := 32) rfl)) (hw _ (List.mem_of_getElem? (i := 3) rfl)) (hw _ (List.mem_of_getElem? (i := 34) rfl)) E_b114 (by decide) at_146 (rm4_n l Z a0 hw b114 h122 n0 Zs F_binaryValue_b114) eT pd_2 rfl (by rw [hml]; rfl) (by decide) 0 rfl (by decide) (by decide) (by decide) 149 rfl ?_
      intro T146 L9 v9 X hQ
      obtain ⟨rfl, N9, eT⟩ := hQ
      have N := Fr.app N N9
      show Go p e below _ T146 (mkF m 149 #[.val (.int p1), .val (.int p2), .val (.int p3), .val (.int p4), .val (.int (0 : Int32)), .val (.int (1 : Int32)), .val (.int v20), .val (.int v24), .val (.int v28), .val .null, .val (.ref b114), .val .null, .unset] [.null])
      refine own_ifnonnullN X hx hby at_149 152 rfl ?_
      refine own_iconst X hx hby (1 : Int32) at_152 rfl 153 rfl ?_
      refine own_goto X hx hby at_153 157 (by decide) ?_
      refine own_retN X hx hby hret hlk (t := .boolean) (z' := (1 : Int32)) (by simp) at_157 (by decide) (by decide) rfl ?_
      rw [eT]
      exact ⟨rfl, N⟩
  · skip
    refine own_iloadN X hx hby p4 at_5 rfl 6 rfl ?_
    refine own_iconst X hx hby (4 : Int32) at_6 rfl 7 rfl ?_
    refine own_iand X hx hby at_7 8 rfl ?_
    refine own_if_eq X hx hby at_8 15 11 (by decide) rfl (fun c8 => ?_) (fun c8 => ?_)
    · skip
      refine own_iconst X hx hby (0 : Int32) at_15 rfl 16 rfl ?_
      refine own_istore X hx hby at_16 rfl (l' := #[.val (.int p1), .val (.int p2), .val (.int p3), .val (.int p4), .val (.int (1 : Int32)), .val (.int (0 : Int32)), .unset, .unset, .unset, .unset, .unset, .unset, .unset]) rfl 18 rfl ?_
      refine own_iloadN X hx hby p1 at_18 rfl 19 rfl ?_
      refine own_i2b X hx hby at_19 20 rfl ?_
      obtain ⟨v20, e20⟩ : ∃ z : Int32, (p1.toInt8.toInt32) = z := ⟨_, rfl⟩
      refine own_istore X hx hby at_20 e20 (l' := #[.val (.int p1), .val (.int p2), .val (.int p3), .val (.int p4), .val (.int (1 : Int32)), .val (.int (0 : Int32)), .val (.int v20), .unset, .unset, .unset, .unset, .unset, .unset]) rfl 22 rfl ?_
      refine own_iloadN X hx hby p2 at_22 rfl 23 rfl ?_
      refine own_i2b X hx hby at_23 24 rfl ?_
      obtain ⟨v24, e24⟩ : ∃ z : Int32, (p2.toInt8.toInt32) = z := ⟨_, rfl⟩
      refine own_istore X hx hby at_24 e24 (l' := #[.val (.int p1), .val (.int p2), .val (.int p3), .val (.int p4), .val (.int (1 : Int32)), .val (.int (0 : Int32)), .val (.int v20), .val (.int v24), .unset, .unset, .unset, .unset, .unset]) rfl 26 rfl ?_
      refine own_iloadN X hx hby p3 at_26 rfl 27 rfl ?_
      refine own_i2b X hx hby at_27 28 rfl ?_
      obtain ⟨v28, e28⟩ : ∃ z : Int32, (p3.toInt8.toInt32) = z := ⟨_, rfl⟩
      refine own_istore X hx hby at_28 e28 (l' := #[.val (.int p1), .val (.int p2), .val (.int p3), .val (.int p4), .val (.int (1 : Int32)), .val (.int (0 : Int32)), .val (.int v20), .val (.int v24), .val (.int v28), .unset, .unset, .unset, .unset]) rfl 30 rfl ?_
      refine own_aconstNull X hx hby at_30 31 rfl ?_
      refine own_astore X hx hby at_31 rfl (l' := #[.val (.int p1), .val (.int p2), .val (.int p3), .val (.int p4), .val (.int (1 : Int32)), .val (.int (0 : Int32)), .val (.int v20), .val (.int v24), .val (.int v28), .val .null, .unset, .unset, .unset]) rfl 33 rfl ?_
      refine own_iload X hx hby (0 : Int32) at_33 rfl 35 rfl ?_
      have c35 : (0 : Int32) = (0 : Int32) := by decide
      refine own_if_ne X hx hby at_35 114 38 (by decide) rfl (fun q => absurd c35 q) (fun _ => ?_)
      refine own_iload X hx hby (1 : Int32) at_38 rfl 40 rfl ?_
      have c40 : ¬ (1 : Int32) = (0 : Int32) := by decide
      refine own_if_ne X hx hby at_40 51 43 (by decide) rfl (fun _ => ?_) (fun q => absurd q c40)
      refine own_iload X hx hby (1 : Int32) at_51 rfl 53 rfl ?_
      refine own_iconst X hx hby (1 : Int32) at_53 rfl 54 rfl ?_
      have c54 : (1 : Int32) = (1 : Int32) := by decide
      refine own_icmp_ne X hx hby at_54 70 57 (by decide) rfl (fun q => absurd c54 q) (fun _ => ?_)
      refine own_iconst X hx hby (1 : Int32) at_57 rfl 58 rfl ?_
      refine own_newarray X hx hby hZ (hw _ (List.mem_of_getElem? (i := 0) rfl)) eT at_58 (z := (1 : Int32)) (by decide) (n := 1) rfl (cap := 1) (by decide) (by decide) (by decide) (by decide) (ad := "[B") rfl 60 rfl ?_
      intro T58 h58 b58 gb58 X eT Ex A A2
      have g_b58 : n0 ≤ b58 := by rw [gb58]; exact Zs
      have sz_b58 : h0.size ≤ b58 := by rw [gb58]; exact K.1
      have A_b58 : Afi Z h58 b58 .byte 1 (fun _ => (0 : Int32)) := A
      have E_b58 := A2
      have K := K.ext Ex
      have Zs := Nat.le_trans Zs Ex.1
      refine own_dup X hx hby at_60 rfl 61 rfl ?_
      refine own_iconst X hx hby (0 : Int32) at_61 rfl 62 rfl ?_
      refine own_iload X hx hby v20 at_62 rfl 64 rfl ?_
      refine own_bastore X hx hby hZ eT A_b58 (by decide) at_64 65 rfl ?_
      intro T64 h64 X eT W A
      have E_b58 := E_b58.wr W
      have A_b58 : Afi Z h64 b58 .byte 1 (updI (fun _ => (0 : Int32)) 0 (nar .byte v20)) := A
      have N := Fr.snoc X N g_b58
      have K := K.wr W (Or.inr sz_b58)
      have Zs := Nat.le_trans Zs (Keep.of_wr W).1
      refine own_astore X hx hby at_65 rfl (l' := #[.val (.int p1), .val (.int p2), .val (.int p3), .val (.int p4), .val (.int (1 : Int32)), .val (.int (0 : Int32)), .val (.int v20), .val (.int v24), .val (.int v28), .val (.ref b58), .unset, .unset, .unset]) rfl 67 rfl ?_
      refine own_goto X hx hby at_67 114 (by decide) ?_
      refine own_new X hx hby hZ hown (hw _ (List.mem_of_getElem? (i := 1) rfl)) (hw _ (List.mem_of_getElem? (i := 2) rfl)) (hw _ (List.mem_of_getElem? (i := 3) rfl)) eT at_114 (by decide) (by decide) 117 rfl ?_
      intro T114 h114 b114 gb114 X eT Ex A D
      have g_b114 : n0 ≤ b114 := by rw [gb114]; exact Zs
      have sz_b114 : h0.size ≤ b114 := by rw [gb114]; exact K.1
      have ne_b58_b114 : b58 ≠ b114 := Nat.ne_of_lt (by rw [gb114]; exact A_b58.lt)
      have A_b58 := A_b58.ext Ex
      have E_b58 := E_b58.ext Ex
      have E_b114 := A
      have F_dataType_b114 : Fld Z h114 b114 "com/example/inflight/inflight/AttributeValue" "dataType" "Ljava/lang/String;" .null := D (Or.inr (hw _ (List.mem_of_getElem? (i := 25) rfl))) (ty := (.object "java/lang/String")) (by decide)
      have F_stringValue_b114 : Fld Z h114 b114 "com/example/inflight/inflight/AttributeValue" "stringValue" "Ljava/lang/String;" .null := D (Or.inr (hw _ (List.mem_of_getElem? (i := 27) rfl))) (ty := (.object "java/lang/String")) (by decide)
      have F_binaryValue_b114 : Fld Z h114 b114 "com/example/inflight/inflight/AttributeValue" "binaryValue" "[B" .null := D (Or.inr (hw _ (List.mem_of_getElem? (i := 29) rfl))) (ty := (.array .byte)) (by decide)
      have K := K.ext Ex
      have Zs := Nat.le_trans Zs Ex.1
      refine own_dup X hx hby at_117 rfl 118 rfl ?_
      refine own_aconstNull X hx hby at_118 119 rfl ?_
      refine own_aconstNull X hx hby at_119 120 rfl ?_
      refine own_aload X hx hby (.ref b58) at_120 rfl rfl 122 rfl ?_
      refine own_callC X hx hby hZ (st := [(.ref b114)]) [.null, .null, (.ref b58)] rfl rfl hown (hw _ (List.mem_of_getElem? (i := 4) rfl)) (hw _ (List.mem_of_getElem? (i := 5) rfl)) (hw _ (List.mem_of_getElem? (i := 3) rfl)) (hw _ (List.mem_of_getElem? (i := 6) rfl)) (by decide) at_122 (rm1_1 l Z a0 hw b114 b58 (updI (fun _ => (0 : Int32)) 0 (nar .byte v20)) h114 n0 Zs A_b58 E_b58 E_b114 F_dataType_b114 F_stringValue_b114 F_binaryValue_b114 g_b114) eT pd_3 rfl (by rw [hml]; rfl) (by decide) 1 rfl (by decide) (by decide) (by decide) 125 rfl ?_
      intro T122 L9 v9 X hQ
      obtain ⟨h122, eT⟩ : ∃ z, T122.heap = z := ⟨_, rfl⟩
      rw [eT] at hQ
      have lt_b114 := E_b114.lt
      have lt_b58 := A_b58.lt
      obtain ⟨b122b13, rfl, N9, Kc, hs_b122b13, E_b114, F_dataType_b114, F_stringValue_b114, F_binaryValue_b114, A_b122b13, E_b122b13⟩ := hQ
      have g_b122b13 : n0 ≤ b122b13 := Nat.le_trans Zs hs_b122b13
      have sz_b122b13 : h0.size ≤ b122b13 := Nat.le_trans K.1 hs_b122b13
      have ne_b114_b122b13 : b114 ≠ b122b13 := Nat.ne_of_lt (Nat.lt_of_lt_of_le lt_b114 hs_b122b13)
      have ne_b58_b122b13 : b58 ≠ b122b13 := Nat.ne_of_lt (Nat.lt_of_lt_of_le lt_b58 hs_b122b13)
      have A_b58 := A_b58.keep Kc (ninS ne_b58_b114 nin0)
      have E_b58 := E_b58.keep Kc
      obtain ⟨ar122, ear122⟩ : ∃ z : Nat → Int32, (updI (fun _ => (0 : Int32)) 0 (nar .byte v20)) = z := ⟨_, rfl⟩
      rw [ear122] at A_b122b13
      have K := K.trans Kc (allS (Or.inr sz_b114) all0)
      have Zs := Nat.le_trans Zs Kc.1
      have N := Fr.app N N9
      show Go p e below _ T122 (mkF m 125 #[.val (.int p1), .val (.int p2), .val (.int p3), .val (.int p4), .val (.int (1 : Int32)), .val (.int (0 : Int32)), .val (.int v20), .val (.int v24), .val (.int v28), .val (.ref b58), .unset, .unset, .unset] [(.ref b114)])
      refine own_astore X hx hby at_125 rfl (l' := #[.val (.int p1), .val (.int p2), .val (.int p3), .val (.int p4), .val (.int (1 : Int32)), .val (.int (0 : Int32)), .val (.int v20), .val (.int v24), .val (.int v28), .val (.ref b58), .val (.ref b114), .unset, .unset]) rfl 127 rfl ?_
      refine own_aload X hx hby (.ref b114) at_127 rfl rfl 129 rfl ?_
      refine own_callV X hx hby hZ (st := []) [] rfl hown (hw _ (List.mem_of_getElem? (i := 30) rfl)) (hw _ (List.mem_of_getElem? (i := 31) rfl)) (hw _ (List.mem_of_getElem? (i := 33) rfl)) (hw _ (List.mem_of_getElem? (i := 32) rfl)) (hw _ (List.mem_of_getElem? (i := 3) rfl)) (hw _ (List.mem_of_getElem? (i := 34) rfl)) E_b114 (by decide) at_129 (rm4_1 l Z a0 hw b114 b122b13 ar122 h122 n0 Zs A_b122b13 E_b122b13 F_binaryValue_b114) eT pd_2 rfl (by rw [hml]; rfl) (by decide) 0 rfl (by decide) (by decide) (by decide) 132 rfl ?_
      intro T129 L9 v9 X hQ
      obtain ⟨h129, eT⟩ : ∃ z, T129.heap = z := ⟨_, rfl⟩
      rw [eT] at hQ
      have lt_b114 := E_b114.lt
      have lt_b122b13 := A_b122b13.lt
      have lt_b58 := A_b58.lt
      obtain ⟨b129b15, rfl, N9, Kc, hs_b129b15, A_b129b15, E_b129b15⟩ := hQ
      have g_b129b15 : n0 ≤ b129b15 := Nat.le_trans Zs hs_b129b15
      have sz_b129b15 : h0.size ≤ b129b15 := Nat.le_trans K.1 hs_b129b15
      have ne_b114_b129b15 : b114 ≠ b129b15 := Nat.ne_of_lt (Nat.lt_of_lt_of_le lt_b114 hs_b129b15)
      have ne_b122b13_b129b15 : b122b13 ≠ b129b15 := Nat.ne_of_lt (Nat.lt_of_lt_of_le lt_b122b13 hs_b129b15)
      have ne_b58_b129b15 : b58 ≠ b129b15 := Nat.ne_of_lt (Nat.lt_of_lt_of_le lt_b58 hs_b129b15)
      have A_b58 := A_b58.keep Kc nin0
      have E_b58 := E_b58.keep Kc
      have E_b114 := E_b114.keep Kc
      have F_dataType_b114 := F_dataType_b114.keep Kc nin0
      have F_stringValue_b114 := F_stringValue_b114.keep Kc nin0
      have F_binaryValue_b114 := F_binaryValue_b114.keep Kc nin0
      have A_b122b13 := A_b122b13.keep Kc nin0
      have E_b122b13 := E_b122b13.keep Kc
      have K := K.trans Kc all0
      have Zs := Nat.le_trans Zs Kc.1
      have N := Fr.app N N9
      show Go p e below _ T129 (mkF m 132 #[.val (.int p1), .val (.int p2), .val (.int p3), .val (.int p4), .val (.int (1 : Int32)), .val (.int (0 : Int32)), .val (.int v20), .val (.int v24), .val (.int v28), .val (.ref b58), .val (.ref b114), .unset, .unset] [(.ref b129b15)])
      refine own_astore X hx hby at_132 rfl (l' := #[.val (.int p1), .val (.int p2), .val (.int p3), .val (.int p4), .val (.int (1 : Int32)), .val (.int (0 : Int32)), .val (.int v20), .val (.int v24), .val (.int v28), .val (.ref b58), .val (.ref b114), .val (.ref b129b15), .unset]) rfl 134 rfl ?_
      refine own_iload X hx hby (0 : Int32) at_134 rfl 136 rfl ?_
      have c136 : (0 : Int32) = (0 : Int32) := by decide
      refine own_if_eq X hx hby at_136 158 139 (by decide) rfl (fun _ => ?_) (fun q => absurd c136 q)
      refine own_aload X hx hby (.ref b129b15) at_158 rfl rfl 160 rfl ?_
      refine own_ifnullN X hx hby at_160 163 rfl ?_
      refine own_aload X hx hby (.ref b129b15) at_163 rfl rfl 165 rfl ?_
      refine own_aload X hx hby (.ref b58) at_165 rfl rfl 167 rfl ?_
      refine own_acmp X hx hby false at_167 rfl rfl (decide_eq_false fun q => (Ne.symm ne_b58_b129b15) (Value.ref.inj q)) (by decide) 170 (by decide) ?_
      refine own_aload X hx hby (.ref b129b15) at_170 rfl rfl 172 rfl ?_
      refine own_arraylength X hx hby hZ (1 : Int32) eT A_b129b15 rfl at_172 173 rfl ?_
      refine own_iload X hx hby (1 : Int32) at_173 rfl 175 rfl ?_
      have c175 : (1 : Int32) = (1 : Int32) := by decide
      refine own_icmp_eq X hx hby at_175 180 178 (by decide) rfl (fun _ => ?_) (fun q => absurd c175 q)
      refine own_aload X hx hby (.ref b129b15) at_180 rfl rfl 182 rfl ?_
      refine own_iload X hx hby (1 : Int32) at_182 rfl 184 rfl ?_
      refine own_iload X hx hby v20 at_184 rfl 186 rfl ?_
      refine own_iload X hx hby v24 at_186 rfl 188 rfl ?_
      refine own_iload X hx hby v28 at_188 rfl 190 rfl ?_
      refine own_callS X hx hby hZ (st := []) [(.ref b129b15), (.int (1 : Int32)), (.int v20), (.int v24), (.int v28)] rfl hown (hw _ (List.mem_of_getElem? (i := 35) rfl)) (hw _ (List.mem_of_getElem? (i := 36) rfl)) (hw _ (List.mem_of_getElem? (i := 37) rfl)) (hw _ (List.mem_of_getElem? (i := 38) rfl)) (by decide) at_190 (rm5_1 l Z a0 hw b129b15 v20 v24 v28 ar122 h129 n0 Zs A_b129b15 E_b129b15) eT pd_4 rfl (by rw [hml]; rfl) (by decide) 0 rfl (by decide) (by decide) (by decide) 193 rfl ?_
      intro T190 L9 v9 X hQ
      obtain ⟨rfl, N9, eT⟩ := hQ
      have N := Fr.app N N9
      show Go p e below _ T190 (mkF m 193 #[.val (.int p1), .val (.int p2), .val (.int p3), .val (.int p4), .val (.int (1 : Int32)), .val (.int (0 : Int32)), .val (.int v20), .val (.int v24), .val (.int v28), .val (.ref b58), .val (.ref b114), .val (.ref b129b15), .unset] [(.int (f5_1 v20 ar122))])
      have c193 : ¬ (f5_1 v20 ar122) = (0 : Int32) := by rw [← ear122]; simp [f5_1, updI, own_nn _ _ e20, own_nn _ _ e24, own_nn _ _ e28]
      refine own_if_ne X hx hby at_193 198 196 (by decide) rfl (fun _ => ?_) (fun q => absurd q c193)
      refine own_iload X hx hby (1 : Int32) at_198 rfl 200 rfl ?_
      have c200 : (0 : Int32) < (1 : Int32) := by decide
      refine own_if_le X hx hby at_200 221 203 (by decide) rfl (fun q => absurd c200 q) (fun _ => ?_)
      refine own_aload X hx hby (.ref b58) at_203 rfl rfl 205 rfl ?_
      refine own_iconst X hx hby (0 : Int32) at_205 rfl 206 rfl ?_
      refine own_iload X hx hby v20 at_206 rfl 208 rfl ?_
      refine own_iconst X hx hby (1 : Int32) at_208 rfl 209 rfl ?_
      refine own_iadd X hx hby at_209 210 rfl ?_
      refine own_i2b X hx hby at_210 211 rfl ?_
      refine own_bastore X hx hby hZ eT A_b58 (by decide) at_211 212 rfl ?_
      intro T211 h211 X eT W A
      have E_b58 := E_b58.wr W
      have E_b114 := E_b114.wr W
      have F_dataType_b114 := F_dataType_b114.other W (Or.inl (Ne.symm ne_b58_b114))
      have F_stringValue_b114 := F_stringValue_b114.other W (Or.inl (Ne.symm ne_b58_b114))
      have F_binaryValue_b114 := F_binaryValue_b114.other W (Or.inl (Ne.symm ne_b58_b114))
      have A_b122b13 := A_b122b13.other W (Ne.symm ne_b58_b122b13)
      have E_b122b13 := E_b122b13.wr W
      have A_b129b15 := A_b129b15.other W (Ne.symm ne_b58_b129b15)
      have E_b129b15 := E_b129b15.wr W
      have A_b58 : Afi Z h211 b58 .byte 1 (updI (updI (fun _ => (0 : Int32)) 0 (nar .byte v20)) 0 (nar .byte ((v20 + (1 : Int32)).toInt8.toInt32))) := A
      have N := Fr.snoc X N g_b58
      have K := K.wr W (Or.inr sz_b58)
      have Zs := Nat.le_trans Zs (Keep.of_wr W).1
      refine own_aload X hx hby (.ref b129b15) at_212 rfl rfl 214 rfl ?_
      refine own_iconst X hx hby (0 : Int32) at_214 rfl 215 rfl ?_
      refine own_iload X hx hby v20 at_215 rfl 217 rfl ?_
      refine own_iconst X hx hby (1 : Int32) at_217 rfl 218 rfl ?_
      refine own_iadd X hx hby at_218 219 rfl ?_
      refine own_i2b X hx hby at_219 220 rfl ?_
      refine own_bastore X hx hby hZ eT A_b129b15 (by decide) at_220 221 rfl ?_
      intro T220 h220 X eT W A
      have A_b58 := A_b58.other W ne_b58_b129b15
      have E_b58 := E_b58.wr W
      have E_b114 := E_b114.wr W
      have F_dataType_b114 := F_dataType_b114.other W (Or.inl ne_b114_b129b15)
      have F_stringValue_b114 := F_stringValue_b114.other W (Or.inl ne_b114_b129b15)
      have F_binaryValue_b114 := F_binaryValue_b114.other W (Or.inl ne_b114_b129b15)
      have A_b122b13 := A_b122b13.other W ne_b122b13_b129b15
      have E_b122b13 := E_b122b13.wr W
      have E_b129b15 := E_b129b15.wr W
      have A_b129b15 : Afi Z h220 b129b15 .byte 1 (updI ar122 0 (nar .byte ((v20 + (1 : Int32)).toInt8.toInt32))) := A
      have N := Fr.snoc X N g_b129b15
      have K := K.wr W (Or.inr sz_b129b15)
      have Zs := Nat.le_trans Zs (Keep.of_wr W).1
      refine own_iload X hx hby (1 : Int32) at_221 rfl 223 rfl ?_
      refine own_iconst X hx hby (1 : Int32) at_223 rfl 224 rfl ?_
      have c224 : ¬ (1 : Int32) < (1 : Int32) := by decide
      refine own_icmp_le X hx hby at_224 245 227 (by decide) rfl (fun _ => ?_) (fun q => absurd q c224)
      refine own_iload X hx hby (1 : Int32) at_245 rfl 247 rfl ?_
      refine own_iconst X hx hby (2 : Int32) at_247 rfl 248 rfl ?_
      have c248 : ¬ (2 : Int32) < (1 : Int32) := by decide
      refine own_icmp_le X hx hby at_248 269 251 (by decide) rfl (fun _ => ?_) (fun q => absurd q c248)
      refine own_aload X hx hby (.ref b114) at_269 rfl rfl 271 rfl ?_
      refine own_callV X hx hby hZ (st := []) [] rfl hown (hw _ (List.mem_of_getElem? (i := 30) rfl)) (hw _ (List.mem_of_getElem? (i := 31) rfl)) (hw _ (List.mem_of_getElem? (i := 33) rfl)) (hw _ (List.mem_of_getElem? (i := 32) rfl)) (hw _ (List.mem_of_getElem? (i := 3) rfl)) (hw _ (List.mem_of_getElem? (i := 34) rfl)) E_b114 (by decide) at_271 (rm4_1 l Z a0 hw b114 b122b13 ar122 h220 n0 Zs A_b122b13 E_b122b13 F_binaryValue_b114) eT pd_2 rfl (by rw [hml]; rfl) (by decide) 0 rfl (by decide) (by decide) (by decide) 274 rfl ?_
      intro T271 L9 v9 X hQ
      obtain ⟨h271, eT⟩ : ∃ z, T271.heap = z := ⟨_, rfl⟩
      rw [eT] at hQ
      have lt_b114 := E_b114.lt
      have lt_b122b13 := A_b122b13.lt
      have lt_b129b15 := A_b129b15.lt
      have lt_b58 := A_b58.lt
      obtain ⟨b271b15, rfl, N9, Kc, hs_b271b15, A_b271b15, E_b271b15⟩ := hQ
      have g_b271b15 : n0 ≤ b271b15 := Nat.le_trans Zs hs_b271b15
      have sz_b271b15 : h0.size ≤ b271b15 := Nat.le_trans K.1 hs_b271b15
      have ne_b114_b271b15 : b114 ≠ b271b15 := Nat.ne_of_lt (Nat.lt_of_lt_of_le lt_b114 hs_b271b15)
      have ne_b122b13_b271b15 : b122b13 ≠ b271b15 := Nat.ne_of_lt (Nat.lt_of_lt_of_le lt_b122b13 hs_b271b15)
      have ne_b129b15_b271b15 : b129b15 ≠ b271b15 := Nat.ne_of_lt (Nat.lt_of_lt_of_le lt_b129b15 hs_b271b15)
      have ne_b58_b271b15 : b58 ≠ b271b15 := Nat.ne_of_lt (Nat.lt_of_lt_of_le lt_b58 hs_b271b15)
      have A_b58 := A_b58.keep Kc nin0
      have E_b58 := E_b58.keep Kc
      have E_b114 := E_b114.keep Kc
      have F_dataType_b114 := F_dataType_b114.keep Kc nin0
      have F_stringValue_b114 := F_stringValue_b114.keep Kc nin0
      have F_binaryValue_b114 := F_binaryValue_b114.keep Kc nin0
      have A_b122b13 := A_b122b13.keep Kc nin0
      have E_b122b13 := E_b122b13.keep Kc
      have A_b129b15 := A_b129b15.keep Kc nin0
      have E_b129b15 := E_b129b15.keep Kc
      have K := K.trans Kc all0
      have Zs := Nat.le_trans Zs Kc.1
      have N := Fr.app N N9
      show Go p e below _ T271 (mkF m 274 #[.val (.int p1), .val (.int p2), .val (.int p3), .val (.int p4), .val (.int (1 : Int32)), .val (.int (0 : Int32)), .val (.int v20), .val (.int v24), .val (.int v28), .val (.ref b58), .val (.ref b114), .val (.ref b129b15), .unset] [(.ref b271b15)])
      refine own_astore X hx hby at_274 rfl (l' := #[.val (.int p1), .val (.int p2), .val (.int p3), .val (.int p4), .val (.int (1 : Int32)), .val (.int (0 : Int32)), .val (.int v20), .val (.int v24), .val (.int v28), .val (.ref b58), .val (.ref b114), .val (.ref b129b15), .val (.ref b271b15)]) rfl 276 rfl ?_
      refine own_aload X hx hby (.ref b271b15) at_276 rfl rfl 278 rfl ?_
      refine own_ifnullN X hx hby at_278 281 rfl ?_
      refine own_aload X hx hby (.ref b271b15) at_281 rfl rfl 283 rfl ?_
      refine own_aload X hx hby (.ref b129b15) at_283 rfl rfl 285 rfl ?_
      refine own_acmp X hx hby false at_285 rfl rfl (decide_eq_false fun q => (Ne.symm ne_b129b15_b271b15) (Value.ref.inj q)) (by decide) 288 (by decide) ?_
      refine own_aload X hx hby (.ref b271b15) at_288 rfl rfl 290 rfl ?_
      refine own_aload X hx hby (.ref b58) at_290 rfl rfl 292 rfl ?_
      refine own_acmp X hx hby false at_292 rfl rfl (decide_eq_false fun q => (Ne.symm ne_b58_b271b15) (Value.ref.inj q)) (by decide) 295 (by decide) ?_
      refine own_aload X hx hby (.ref b271b15) at_295 rfl rfl 297 rfl ?_
      refine own_arraylength X hx hby hZ (1 : Int32) eT A_b271b15 rfl at_297 298 rfl ?_
      refine own_iload X hx hby (1 : Int32) at_298 rfl 300 rfl ?_
      have c300 : (1 : Int32) = (1 : Int32) := by decide
      refine own_icmp_ne X hx hby at_300 323 303 (by decide) rfl (fun q => absurd c300 q) (fun _ => ?_)
      refine own_aload X hx hby (.ref b271b15) at_303 rfl rfl 305 rfl ?_
      refine own_iload X hx hby (1 : Int32) at_305 rfl 307 rfl ?_
      refine own_iload X hx hby v20 at_307 rfl 309 rfl ?_
      refine own_iload X hx hby v24 at_309 rfl 311 rfl ?_
      refine own_iload X hx hby v28 at_311 rfl 313 rfl ?_
      refine own_callS X hx hby hZ (st := []) [(.ref b271b15), (.int (1 : Int32)), (.int v20), (.int v24), (.int v28)] rfl hown (hw _ (List.mem_of_getElem? (i := 35) rfl)) (hw _ (List.mem_of_getElem? (i := 36) rfl)) (hw _ (List.mem_of_getElem? (i := 37) rfl)) (hw _ (List.mem_of_getElem? (i := 38) rfl)) (by decide) at_313 (rm5_1 l Z a0 hw b271b15 v20 v24 v28 ar122 h271 n0 Zs A_b271b15 E_b271b15) eT pd_4 rfl (by rw [hml]; rfl) (by decide) 0 rfl (by decide) (by decide) (by decide) 316 rfl ?_
      intro T313 L9 v9 X hQ
      obtain ⟨rfl, N9, eT⟩ := hQ
      have N := Fr.app N N9
      show Go p e below _ T313 (mkF m 316 #[.val (.int p1), .val (.int p2), .val (.int p3), .val (.int p4), .val (.int (1 : Int32)), .val (.int (0 : Int32)), .val (.int v20), .val (.int v24), .val (.int v28), .val (.ref b58), .val (.ref b114), .val (.ref b129b15), .val (.ref b271b15)] [(.int (f5_1 v20 ar122))])
      have c316 : ¬ (f5_1 v20 ar122) = (0 : Int32) := by rw [← ear122]; simp [f5_1, updI, own_nn _ _ e20, own_nn _ _ e24, own_nn _ _ e28]
      refine own_if_eq X hx hby at_316 323 319 (by decide) rfl (fun q => absurd q c316) (fun _ => ?_)
      refine own_iconst X hx hby (1 : Int32) at_319 rfl 320 rfl ?_
      refine own_goto X hx hby at_320 324 (by decide) ?_
      refine own_retN X hx hby hret hlk (t := .boolean) (z' := (1 : Int32)) (by simp) at_324 (by decide) (by decide) rfl ?_
      rw [eT]
      exact ⟨rfl, N⟩
    · skip
      refine own_iconst X hx hby (1 : Int32) at_11 rfl 12 rfl ?_
      refine own_goto X hx hby at_12 16 (by decide) ?_
      refine own_istore X hx hby at_16 rfl (l' := #[.val (.int p1), .val (.int p2), .val (.int p3), .val (.int p4), .val (.int (1 : Int32)), .val (.int (1 : Int32)), .unset, .unset, .unset, .unset, .unset, .unset, .unset]) rfl 18 rfl ?_
      refine own_iloadN X hx hby p1 at_18 rfl 19 rfl ?_
      refine own_i2b X hx hby at_19 20 rfl ?_
      obtain ⟨v20, e20⟩ : ∃ z : Int32, (p1.toInt8.toInt32) = z := ⟨_, rfl⟩
      refine own_istore X hx hby at_20 e20 (l' := #[.val (.int p1), .val (.int p2), .val (.int p3), .val (.int p4), .val (.int (1 : Int32)), .val (.int (1 : Int32)), .val (.int v20), .unset, .unset, .unset, .unset, .unset, .unset]) rfl 22 rfl ?_
      refine own_iloadN X hx hby p2 at_22 rfl 23 rfl ?_
      refine own_i2b X hx hby at_23 24 rfl ?_
      obtain ⟨v24, e24⟩ : ∃ z : Int32, (p2.toInt8.toInt32) = z := ⟨_, rfl⟩
      refine own_istore X hx hby at_24 e24 (l' := #[.val (.int p1), .val (.int p2), .val (.int p3), .val (.int p4), .val (.int (1 : Int32)), .val (.int (1 : Int32)), .val (.int v20), .val (.int v24), .unset, .unset, .unset, .unset, .unset]) rfl 26 rfl ?_
      refine own_iloadN X hx hby p3 at_26 rfl 27 rfl ?_
      refine own_i2b X hx hby at_27 28 rfl ?_
      obtain ⟨v28, e28⟩ : ∃ z : Int32, (p3.toInt8.toInt32) = z := ⟨_, rfl⟩
      refine own_istore X hx hby at_28 e28 (l' := #[.val (.int p1), .val (.int p2), .val (.int p3), .val (.int p4), .val (.int (1 : Int32)), .val (.int (1 : Int32)), .val (.int v20), .val (.int v24), .val (.int v28), .unset, .unset, .unset, .unset]) rfl 30 rfl ?_
      refine own_aconstNull X hx hby at_30 31 rfl ?_
      refine own_astore X hx hby at_31 rfl (l' := #[.val (.int p1), .val (.int p2), .val (.int p3), .val (.int p4), .val (.int (1 : Int32)), .val (.int (1 : Int32)), .val (.int v20), .val (.int v24), .val (.int v28), .val .null, .unset, .unset, .unset]) rfl 33 rfl ?_
      refine own_iload X hx hby (1 : Int32) at_33 rfl 35 rfl ?_
      have c35 : ¬ (1 : Int32) = (0 : Int32) := by decide
      refine own_if_ne X hx hby at_35 114 38 (by decide) rfl (fun _ => ?_) (fun q => absurd q c35)
      refine own_new X hx hby hZ hown (hw _ (List.mem_of_getElem? (i := 1) rfl)) (hw _ (List.mem_of_getElem? (i := 2) rfl)) (hw _ (List.mem_of_getElem? (i := 3) rfl)) eT at_114 (by decide) (by decide) 117 rfl ?_
      intro T114 h114 b114 gb114 X eT Ex A D
      have g_b114 : n0 ≤ b114 := by rw [gb114]; exact Zs
      have sz_b114 : h0.size ≤ b114 := by rw [gb114]; exact K.1
      have E_b114 := A
      have F_dataType_b114 : Fld Z h114 b114 "com/example/inflight/inflight/AttributeValue" "dataType" "Ljava/lang/String;" .null := D (Or.inr (hw _ (List.mem_of_getElem? (i := 25) rfl))) (ty := (.object "java/lang/String")) (by decide)
      have F_stringValue_b114 : Fld Z h114 b114 "com/example/inflight/inflight/AttributeValue" "stringValue" "Ljava/lang/String;" .null := D (Or.inr (hw _ (List.mem_of_getElem? (i := 27) rfl))) (ty := (.object "java/lang/String")) (by decide)
      have F_binaryValue_b114 : Fld Z h114 b114 "com/example/inflight/inflight/AttributeValue" "binaryValue" "[B" .null := D (Or.inr (hw _ (List.mem_of_getElem? (i := 29) rfl))) (ty := (.array .byte)) (by decide)
      have K := K.ext Ex
      have Zs := Nat.le_trans Zs Ex.1
      refine own_dup X hx hby at_117 rfl 118 rfl ?_
      refine own_aconstNull X hx hby at_118 119 rfl ?_
      refine own_aconstNull X hx hby at_119 120 rfl ?_
      refine own_aload X hx hby .null at_120 rfl rfl 122 rfl ?_
      refine own_callC X hx hby hZ (st := [(.ref b114)]) [.null, .null, .null] rfl rfl hown (hw _ (List.mem_of_getElem? (i := 4) rfl)) (hw _ (List.mem_of_getElem? (i := 5) rfl)) (hw _ (List.mem_of_getElem? (i := 3) rfl)) (hw _ (List.mem_of_getElem? (i := 6) rfl)) (by decide) at_122 (rm1_n l Z a0 hw b114 h114 n0 Zs E_b114 F_dataType_b114 F_stringValue_b114 F_binaryValue_b114 g_b114) eT pd_3 rfl (by rw [hml]; rfl) (by decide) 1 rfl (by decide) (by decide) (by decide) 125 rfl ?_
      intro T122 L9 v9 X hQ
      obtain ⟨h122, eT⟩ : ∃ z, T122.heap = z := ⟨_, rfl⟩
      rw [eT] at hQ
      obtain ⟨rfl, N9, Kc, E_b114, F_dataType_b114, F_stringValue_b114, F_binaryValue_b114⟩ := hQ
      have K := K.trans Kc (allS (Or.inr sz_b114) all0)
      have Zs := Nat.le_trans Zs Kc.1
      have N := Fr.app N N9
      show Go p e below _ T122 (mkF m 125 #[.val (.int p1), .val (.int p2), .val (.int p3), .val (.int p4), .val (.int (1 : Int32)), .val (.int (1 : Int32)), .val (.int v20), .val (.int v24), .val (.int v28), .val .null, .unset, .unset, .unset] [(.ref b114)])
      refine own_astore X hx hby at_125 rfl (l' := #[.val (.int p1), .val (.int p2), .val (.int p3), .val (.int p4), .val (.int (1 : Int32)), .val (.int (1 : Int32)), .val (.int v20), .val (.int v24), .val (.int v28), .val .null, .val (.ref b114), .unset, .unset]) rfl 127 rfl ?_
      refine own_aload X hx hby (.ref b114) at_127 rfl rfl 129 rfl ?_
      refine own_callV X hx hby hZ (st := []) [] rfl hown (hw _ (List.mem_of_getElem? (i := 30) rfl)) (hw _ (List.mem_of_getElem? (i := 31) rfl)) (hw _ (List.mem_of_getElem? (i := 33) rfl)) (hw _ (List.mem_of_getElem? (i := 32) rfl)) (hw _ (List.mem_of_getElem? (i := 3) rfl)) (hw _ (List.mem_of_getElem? (i := 34) rfl)) E_b114 (by decide) at_129 (rm4_n l Z a0 hw b114 h122 n0 Zs F_binaryValue_b114) eT pd_2 rfl (by rw [hml]; rfl) (by decide) 0 rfl (by decide) (by decide) (by decide) 132 rfl ?_
      intro T129 L9 v9 X hQ
      obtain ⟨rfl, N9, eT⟩ := hQ
      have N := Fr.app N N9
      show Go p e below _ T129 (mkF m 132 #[.val (.int p1), .val (.int p2), .val (.int p3), .val (.int p4), .val (.int (1 : Int32)), .val (.int (1 : Int32)), .val (.int v20), .val (.int v24), .val (.int v28), .val .null, .val (.ref b114), .unset, .unset] [.null])
      refine own_astore X hx hby at_132 rfl (l' := #[.val (.int p1), .val (.int p2), .val (.int p3), .val (.int p4), .val (.int (1 : Int32)), .val (.int (1 : Int32)), .val (.int v20), .val (.int v24), .val (.int v28), .val .null, .val (.ref b114), .val .null, .unset]) rfl 134 rfl ?_
      refine own_iload X hx hby (1 : Int32) at_134 rfl 136 rfl ?_
      have c136 : ¬ (1 : Int32) = (0 : Int32) := by decide
      refine own_if_eq X hx hby at_136 158 139 (by decide) rfl (fun q => absurd q c136) (fun _ => ?_)
      refine own_aload X hx hby .null at_139 rfl rfl 141 rfl ?_
      refine own_ifnonnullN X hx hby at_141 144 rfl ?_
      refine own_aload X hx hby (.ref b114) at_144 rfl rfl 146 rfl ?_
      refine own_callV X hx hby hZ (st := []) [] rfl hown (hw _ (List.mem_of_getElem? (i := 30) rfl)) (hw _ (List.mem_of_getElem? (i := 31) rfl)) (hw _ (List.mem_of_getElem? (i := 33) rfl)) (hw _ (List.mem_of_getElem? (i := 32) rfl)) (hw _ (List.mem_of_getElem? (i := 3) rfl)) (hw _ (List.mem_of_getElem? (i := 34) rfl)) E_b114 (by decide) at_146 (rm4_n l Z a0 hw b114 h122 n0 Zs F_binaryValue_b114) eT pd_2 rfl (by rw [hml]; rfl) (by decide) 0 rfl (by decide) (by decide) (by decide) 149 rfl ?_
      intro T146 L9 v9 X hQ
      obtain ⟨rfl, N9, eT⟩ := hQ
      have N := Fr.app N N9
      show Go p e below _ T146 (mkF m 149 #[.val (.int p1), .val (.int p2), .val (.int p3), .val (.int p4), .val (.int (1 : Int32)), .val (.int (1 : Int32)), .val (.int v20), .val (.int v24), .val (.int v28), .val .null, .val (.ref b114), .val .null, .unset] [.null])
      refine own_ifnonnullN X hx hby at_149 152 rfl ?_
      refine own_iconst X hx hby (1 : Int32) at_152 rfl 153 rfl ?_
      refine own_goto X hx hby at_153 157 (by decide) ?_
      refine own_retN X hx hby hret hlk (t := .boolean) (z' := (1 : Int32)) (by simp) at_157 (by decide) (by decide) rfl ?_
      rw [eT]
      exact ⟨rfl, N⟩
  · skip
    refine own_iloadN X hx hby p4 at_5 rfl 6 rfl ?_
    refine own_iconst X hx hby (4 : Int32) at_6 rfl 7 rfl ?_
    refine own_iand X hx hby at_7 8 rfl ?_
    refine own_if_eq X hx hby at_8 15 11 (by decide) rfl (fun c8 => ?_) (fun c8 => ?_)
    · skip
      refine own_iconst X hx hby (0 : Int32) at_15 rfl 16 rfl ?_
      refine own_istore X hx hby at_16 rfl (l' := #[.val (.int p1), .val (.int p2), .val (.int p3), .val (.int p4), .val (.int (2 : Int32)), .val (.int (0 : Int32)), .unset, .unset, .unset, .unset, .unset, .unset, .unset]) rfl 18 rfl ?_
      refine own_iloadN X hx hby p1 at_18 rfl 19 rfl ?_
      refine own_i2b X hx hby at_19 20 rfl ?_
      obtain ⟨v20, e20⟩ : ∃ z : Int32, (p1.toInt8.toInt32) = z := ⟨_, rfl⟩
      refine own_istore X hx hby at_20 e20 (l' := #[.val (.int p1), .val (.int p2), .val (.int p3), .val (.int p4), .val (.int (2 : Int32)), .val (.int (0 : Int32)), .val (.int v20), .unset, .unset, .unset, .unset, .unset, .unset]) rfl 22 rfl ?_
      refine own_iloadN X hx hby p2 at_22 rfl 23 rfl ?_
      refine own_i2b X hx hby at_23 24 rfl ?_
      obtain ⟨v24, e24⟩ : ∃ z : Int32, (p2.toInt8.toInt32) = z := ⟨_, rfl⟩
      refine own_istore X hx hby at_24 e24 (l' := #[.val (.int p1), .val (.int p2), .val (.int p3), .val (.int p4), .val (.int (2 : Int32)), .val (.int (0 : Int32)), .val (.int v20), .val (.int v24), .unset, .unset, .unset, .unset, .unset]) rfl 26 rfl ?_
      refine own_iloadN X hx hby p3 at_26 rfl 27 rfl ?_
      refine own_i2b X hx hby at_27 28 rfl ?_
      obtain ⟨v28, e28⟩ : ∃ z : Int32, (p3.toInt8.toInt32) = z := ⟨_, rfl⟩
      refine own_istore X hx hby at_28 e28 (l' := #[.val (.int p1), .val (.int p2), .val (.int p3), .val (.int p4), .val (.int (2 : Int32)), .val (.int (0 : Int32)), .val (.int v20), .val (.int v24), .val (.int v28), .unset, .unset, .unset, .unset]) rfl 30 rfl ?_
      refine own_aconstNull X hx hby at_30 31 rfl ?_
      refine own_astore X hx hby at_31 rfl (l' := #[.val (.int p1), .val (.int p2), .val (.int p3), .val (.int p4), .val (.int (2 : Int32)), .val (.int (0 : Int32)), .val (.int v20), .val (.int v24), .val (.int v28), .val .null, .unset, .unset, .unset]) rfl 33 rfl ?_
      refine own_iload X hx hby (0 : Int32) at_33 rfl 35 rfl ?_
      have c35 : (0 : Int32) = (0 : Int32) := by decide
      refine own_if_ne X hx hby at_35 114 38 (by decide) rfl (fun q => absurd c35 q) (fun _ => ?_)
      refine own_iload X hx hby (2 : Int32) at_38 rfl 40 rfl ?_
      have c40 : ¬ (2 : Int32) = (0 : Int32) := by decide
      refine own_if_ne X hx hby at_40 51 43 (by decide) rfl (fun _ => ?_) (fun q => absurd q c40)
      refine own_iload X hx hby (2 : Int32) at_51 rfl 53 rfl ?_
      refine own_iconst X hx hby (1 : Int32) at_53 rfl 54 rfl ?_
      have c54 : ¬ (2 : Int32) = (1 : Int32) := by decide
      refine own_icmp_ne X hx hby at_54 70 57 (by decide) rfl (fun _ => ?_) (fun q => absurd q c54)
      refine own_iload X hx hby (2 : Int32) at_70 rfl 72 rfl ?_
      refine own_iconst X hx hby (2 : Int32) at_72 rfl 73 rfl ?_
      have c73 : (2 : Int32) = (2 : Int32) := by decide
      refine own_icmp_ne X hx hby at_73 94 76 (by decide) rfl (fun q => absurd c73 q) (fun _ => ?_)
      refine own_iconst X hx hby (2 : Int32) at_76 rfl 77 rfl ?_
      refine own_newarray X hx hby hZ (hw _ (List.mem_of_getElem? (i := 0) rfl)) eT at_77 (z := (2 : Int32)) (by decide) (n := 2) rfl (cap := 2) (by decide) (by decide) (by decide) (by decide) (ad := "[B") rfl 79 rfl ?_
      intro T77 h77 b77 gb77 X eT Ex A A2
      have g_b77 : n0 ≤ b77 := by rw [gb77]; exact Zs
      have sz_b77 : h0.size ≤ b77 := by rw [gb77]; exact K.1
      have A_b77 : Afi Z h77 b77 .byte 2 (fun _ => (0 : Int32)) := A
      have E_b77 := A2
      have K := K.ext Ex
      have Zs := Nat.le_trans Zs Ex.1
      refine own_dup X hx hby at_79 rfl 80 rfl ?_
      refine own_iconst X hx hby (0 : Int32) at_80 rfl 81 rfl ?_
      refine own_iload X hx hby v20 at_81 rfl 83 rfl ?_
      refine own_bastore X hx hby hZ eT A_b77 (by decide) at_83 84 rfl ?_
      intro T83 h83 X eT W A
      have E_b77 := E_b77.wr W
      have A_b77 : Afi Z h83 b77 .byte 2 (updI (fun _ => (0 : Int32)) 0 (nar .byte v20)) := A
      have N := Fr.snoc X N g_b77
      have K := K.wr W (Or.inr sz_b77)
      have Zs := Nat.le_trans Zs (Keep.of_wr W).1
      refine own_dup X hx hby at_84 rfl 85 rfl ?_
      refine own_iconst X hx hby (1 : Int32) at_85 rfl 86 rfl ?_
      refine own_iload X hx hby v24 at_86 rfl 88 rfl ?_
      refine own_bastore X hx hby hZ eT A_b77 (by decide) at_88 89 rfl ?_
      intro T88 h88 X eT W A
      have E_b77 := E_b77.wr W
      have A_b77 : Afi Z h88 b77 .byte 2 (updI (updI (fun _ => (0 : Int32)) 0 (nar .byte v20)) 1 (nar .byte v24)) := A
      have N := Fr.snoc X N g_b77
      have K := K.wr W (Or.inr sz_b77)
      have Zs := Nat.le_trans Zs (Keep.of_wr W).1
      refine own_astore X hx hby at_89 rfl (l' := #[.val (.int p1), .val (.int p2), .val (.int p3), .val (.int p4), .val (.int (2 : Int32)), .val (.int (0 : Int32)), .val (.int v20), .val (.int v24), .val (.int v28), .val (.ref b77), .unset, .unset, .unset]) rfl 91 rfl ?_
      refine own_goto X hx hby at_91 114 (by decide) ?_
      refine own_new X hx hby hZ hown (hw _ (List.mem_of_getElem? (i := 1) rfl)) (hw _ (List.mem_of_getElem? (i := 2) rfl)) (hw _ (List.mem_of_getElem? (i := 3) rfl)) eT at_114 (by decide) (by decide) 117 rfl ?_
      intro T114 h114 b114 gb114 X eT Ex A D
      have g_b114 : n0 ≤ b114 := by rw [gb114]; exact Zs
      have sz_b114 : h0.size ≤ b114 := by rw [gb114]; exact K.1
      have ne_b77_b114 : b77 ≠ b114 := Nat.ne_of_lt (by rw [gb114]; exact A_b77.lt)
      have A_b77 := A_b77.ext Ex
      have E_b77 := E_b77.ext Ex
      have E_b114 := A
      have F_dataType_b114 : Fld Z h114 b114 "com/example/inflight/inflight/AttributeValue" "dataType" "Ljava/lang/String;" .null := D (Or.inr (hw _ (List.mem_of_getElem? (i := 25) rfl))) (ty := (.object "java/lang/String")) (by decide)
      have F_stringValue_b114 : Fld Z h114 b114 "com/example/inflight/inflight/AttributeValue" "stringValue" "Ljava/lang/String;" .null := D (Or.inr (hw _ (List.mem_of_getElem? (i := 27) rfl))) (ty := (.object "java/lang/String")) (by decide)
      have F_binaryValue_b114 : Fld Z h114 b114 "com/example/inflight/inflight/AttributeValue" "binaryValue" "[B" .null := D (Or.inr (hw _ (List.mem_of_getElem? (i := 29) rfl))) (ty := (.array .byte)) (by decide)
      have K := K.ext Ex
      have Zs := Nat.le_trans Zs Ex.1
      refine own_dup X hx hby at_117 rfl 118 rfl ?_
      refine own_aconstNull X hx hby at_118 119 rfl ?_
      refine own_aconstNull X hx hby at_119 120 rfl ?_
      refine own_aload X hx hby (.ref b77) at_120 rfl rfl 122 rfl ?_
      refine own_callC X hx hby hZ (st := [(.ref b114)]) [.null, .null, (.ref b77)] rfl rfl hown (hw _ (List.mem_of_getElem? (i := 4) rfl)) (hw _ (List.mem_of_getElem? (i := 5) rfl)) (hw _ (List.mem_of_getElem? (i := 3) rfl)) (hw _ (List.mem_of_getElem? (i := 6) rfl)) (by decide) at_122 (rm1_2 l Z a0 hw b114 b77 (updI (updI (fun _ => (0 : Int32)) 0 (nar .byte v20)) 1 (nar .byte v24)) h114 n0 Zs A_b77 E_b77 E_b114 F_dataType_b114 F_stringValue_b114 F_binaryValue_b114 g_b114) eT pd_3 rfl (by rw [hml]; rfl) (by decide) 1 rfl (by decide) (by decide) (by decide) 125 rfl ?_
      intro T122 L9 v9 X hQ
      obtain ⟨h122, eT⟩ : ∃ z, T122.heap = z := ⟨_, rfl⟩
      rw [eT] at hQ
      have lt_b114 := E_b114.lt
      have lt_b77 := A_b77.lt
      obtain ⟨b122b13, rfl, N9, Kc, hs_b122b13, E_b114, F_dataType_b114, F_stringValue_b114, F_binaryValue_b114, A_b122b13, E_b122b13⟩ := hQ
      have g_b122b13 : n0 ≤ b122b13 := Nat.le_trans Zs hs_b122b13
      have sz_b122b13 : h0.size ≤ b122b13 := Nat.le_trans K.1 hs_b122b13
      have ne_b114_b122b13 : b114 ≠ b122b13 := Nat.ne_of_lt (Nat.lt_of_lt_of_le lt_b114 hs_b122b13)
      have ne_b77_b122b13 : b77 ≠ b122b13 := Nat.ne_of_lt (Nat.lt_of_lt_of_le lt_b77 hs_b122b13)
      have A_b77 := A_b77.keep Kc (ninS ne_b77_b114 nin0)
      have E_b77 := E_b77.keep Kc
      obtain ⟨ar122, ear122⟩ : ∃ z : Nat → Int32, (updI (updI (fun _ => (0 : Int32)) 0 (nar .byte v20)) 1 (nar .byte v24)) = z := ⟨_, rfl⟩
      rw [ear122] at A_b122b13
      have K := K.trans Kc (allS (Or.inr sz_b114) all0)
      have Zs := Nat.le_trans Zs Kc.1
      have N := Fr.app N N9
      show Go p e below _ T122 (mkF m 125 #[.val (.int p1), .val (.int p2), .val (.int p3), .val (.int p4), .val (.int (2 : Int32)), .val (.int (0 : Int32)), .val (.int v20), .val (.int v24), .val (.int v28), .val (.ref b77), .unset, .unset, .unset] [(.ref b114)])
      refine own_astore X hx hby at_125 rfl (l' := #[.val (.int p1), .val (.int p2), .val (.int p3), .val (.int p4), .val (.int (2 : Int32)), .val (.int (0 : Int32)), .val (.int v20), .val (.int v24), .val (.int v28), .val (.ref b77), .val (.ref b114), .unset, .unset]) rfl 127 rfl ?_
      refine own_aload X hx hby (.ref b114) at_127 rfl rfl 129 rfl ?_
      refine own_callV X hx hby hZ (st := []) [] rfl hown (hw _ (List.mem_of_getElem? (i := 30) rfl)) (hw _ (List.mem_of_getElem? (i := 31) rfl)) (hw _ (List.mem_of_getElem? (i := 33) rfl)) (hw _ (List.mem_of_getElem? (i := 32) rfl)) (hw _ (List.mem_of_getElem? (i := 3) rfl)) (hw _ (List.mem_of_getElem? (i := 34) rfl)) E_b114 (by decide) at_129 (rm4_2 l Z a0 hw b114 b122b13 ar122 h122 n0 Zs A_b122b13 E_b122b13 F_binaryValue_b114) eT pd_2 rfl (by rw [hml]; rfl) (by decide) 0 rfl (by decide) (by decide) (by decide) 132 rfl ?_
      intro T129 L9 v9 X hQ
      obtain ⟨h129, eT⟩ : ∃ z, T129.heap = z := ⟨_, rfl⟩
      rw [eT] at hQ
      have lt_b114 := E_b114.lt
      have lt_b122b13 := A_b122b13.lt
      have lt_b77 := A_b77.lt
      obtain ⟨b129b15, rfl, N9, Kc, hs_b129b15, A_b129b15, E_b129b15⟩ := hQ
      have g_b129b15 : n0 ≤ b129b15 := Nat.le_trans Zs hs_b129b15
      have sz_b129b15 : h0.size ≤ b129b15 := Nat.le_trans K.1 hs_b129b15
      have ne_b114_b129b15 : b114 ≠ b129b15 := Nat.ne_of_lt (Nat.lt_of_lt_of_le lt_b114 hs_b129b15)
      have ne_b122b13_b129b15 : b122b13 ≠ b129b15 := Nat.ne_of_lt (Nat.lt_of_lt_of_le lt_b122b13 hs_b129b15)
      have ne_b77_b129b15 : b77 ≠ b129b15 := Nat.ne_of_lt (Nat.lt_of_lt_of_le lt_b77 hs_b129b15)
      have A_b77 := A_b77.keep Kc nin0
      have E_b77 := E_b77.keep Kc
      have E_b114 := E_b114.keep Kc
      have F_dataType_b114 := F_dataType_b114.keep Kc nin0
      have F_stringValue_b114 := F_stringValue_b114.keep Kc nin0
      have F_binaryValue_b114 := F_binaryValue_b114.keep Kc nin0
      have A_b122b13 := A_b122b13.keep Kc nin0
      have E_b122b13 := E_b122b13.keep Kc
      have K := K.trans Kc all0
      have Zs := Nat.le_trans Zs Kc.1
      have N := Fr.app N N9
      show Go p e below _ T129 (mkF m 132 #[.val (.int p1), .val (.int p2), .val (.int p3), .val (.int p4), .val (.int (2 : Int32)), .val (.int (0 : Int32)), .val (.int v20), .val (.int v24), .val (.int v28), .val (.ref b77), .val (.ref b114), .unset, .unset] [(.ref b129b15)])
      refine own_astore X hx hby at_132 rfl (l' := #[.val (.int p1), .val (.int p2), .val (.int p3), .val (.int p4), .val (.int (2 : Int32)), .val (.int (0 : Int32)), .val (.int v20), .val (.int v24), .val (.int v28), .val (.ref b77), .val (.ref b114), .val (.ref b129b15), .unset]) rfl 134 rfl ?_
      refine own_iload X hx hby (0 : Int32) at_134 rfl 136 rfl ?_
      have c136 : (0 : Int32) = (0 : Int32) := by decide
      refine own_if_eq X hx hby at_136 158 139 (by decide) rfl (fun _ => ?_) (fun q => absurd c136 q)
      refine own_aload X hx hby (.ref b129b15) at_158 rfl rfl 160 rfl ?_
      refine own_ifnullN X hx hby at_160 163 rfl ?_
      refine own_aload X hx hby (.ref b129b15) at_163 rfl rfl 165 rfl ?_
      refine own_aload X hx hby (.ref b77) at_165 rfl rfl 167 rfl ?_
      refine own_acmp X hx hby false at_167 rfl rfl (decide_eq_false fun q => (Ne.symm ne_b77_b129b15) (Value.ref.inj q)) (by decide) 170 (by decide) ?_
      refine own_aload X hx hby (.ref b129b15) at_170 rfl rfl 172 rfl ?_
      refine own_arraylength X hx hby hZ (2 : Int32) eT A_b129b15 rfl at_172 173 rfl ?_
      refine own_iload X hx hby (2 : Int32) at_173 rfl 175 rfl ?_
      have c175 : (2 : Int32) = (2 : Int32) := by decide
      refine own_icmp_eq X hx hby at_175 180 178 (by decide) rfl (fun _ => ?_) (fun q => absurd c175 q)
      refine own_aload X hx hby (.ref b129b15) at_180 rfl rfl 182 rfl ?_
      refine own_iload X hx hby (2 : Int32) at_182 rfl 184 rfl ?_
      refine own_iload X hx hby v20 at_184 rfl 186 rfl ?_
      refine own_iload X hx hby v24 at_186 rfl 188 rfl ?_
      refine own_iload X hx hby v28 at_188 rfl 190 rfl ?_
      refine own_callS X hx hby hZ (st := []) [(.ref b129b15), (.int (2 : Int32)), (.int v20), (.int v24), (.int v28)] rfl hown (hw _ (List.mem_of_getElem? (i := 35) rfl)) (hw _ (List.mem_of_getElem? (i := 36) rfl)) (hw _ (List.mem_of_getElem? (i := 37) rfl)) (hw _ (List.mem_of_getElem? (i := 38) rfl)) (by decide) at_190 (rm5_2 l Z a0 hw b129b15 v20 v24 v28 ar122 h129 n0 Zs A_b129b15 E_b129b15) eT pd_4 rfl (by rw [hml]; rfl) (by decide) 0 rfl (by decide) (by decide) (by decide) 193 rfl ?_
      intro T190 L9 v9 X hQ
      obtain ⟨rfl, N9, eT⟩ := hQ
      have N := Fr.app N N9
      show Go p e below _ T190 (mkF m 193 #[.val (.int p1), .val (.int p2), .val (.int p3), .val (.int p4), .val (.int (2 : Int32)), .val (.int (0 : Int32)), .val (.int v20), .val (.int v24), .val (.int v28), .val (.ref b77), .val (.ref b114), .val (.ref b129b15), .unset] [(.int (f5_2 v20 v24 ar122))])
      have c193 : ¬ (f5_2 v20 v24 ar122) = (0 : Int32) := by rw [← ear122]; simp [f5_2, updI, own_nn _ _ e20, own_nn _ _ e24, own_nn _ _ e28]
      refine own_if_ne X hx hby at_193 198 196 (by decide) rfl (fun _ => ?_) (fun q => absurd q c193)
      refine own_iload X hx hby (2 : Int32) at_198 rfl 200 rfl ?_
      have c200 : (0 : Int32) < (2 : Int32) := by decide
      refine own_if_le X hx hby at_200 221 203 (by decide) rfl (fun q => absurd c200 q) (fun _ => ?_)
      refine own_aload X hx hby (.ref b77) at_203 rfl rfl 205 rfl ?_
      refine own_iconst X hx hby (0 : Int32) at_205 rfl 206 rfl ?_
      refine own_iload X hx hby v20 at_206 rfl 208 rfl ?_
      refine own_iconst X hx hby (1 : Int32) at_208 rfl 209 rfl ?_
      refine own_iadd X hx hby at_209 210 rfl ?_
      refine own_i2b X hx hby at_210 211 rfl ?_
      refine own_bastore X hx hby hZ eT A_b77 (by decide) at_211 212 rfl ?_
      intro T211 h211 X eT W A
      have E_b77 := E_b77.wr W
      have E_b114 := E_b114.wr W
      have F_dataType_b114 := F_dataType_b114.other W (Or.inl (Ne.symm ne_b77_b114))
      have F_stringValue_b114 := F_stringValue_b114.other W (Or.inl (Ne.symm ne_b77_b114))
      have F_binaryValue_b114 := F_binaryValue_b114.other W (Or.inl (Ne.symm ne_b77_b114))
      have A_b122b13 := A_b122b13.other W (Ne.symm ne_b77_b122b13)
      have E_b122b13 := E_b122b13.wr W
      have A_b129b15 := A_b129b15.other W (Ne.symm ne_b77_b129b15)
      have E_b129b15 := E_b129b15.wr W
      have A_b77 : Afi Z h211 b77 .byte 2 (updI (updI (updI (fun _ => (0 : Int32)) 0 (nar .byte v20)) 1 (nar .byte v24)) 0 (nar .byte ((v20 + (1 : Int32)).toInt8.toInt32))) := A
      have N := Fr.snoc X N g_b77
      have K := K.wr W (Or.inr sz_b77)
      have Zs := Nat.le_trans Zs (Keep.of_wr W).1
      refine own_aload X hx hby (.ref b129b15) at_212 rfl rfl 214 rfl ?_
      refine own_iconst X hx hby (0 : Int32) at_214 rfl 215 rfl ?_
      refine own_iload X hx hby v20 at_215 rfl 217 rfl ?_
      refine own_iconst X hx hby (1 : Int32) at_217 rfl 218 rfl ?_
      refine own_iadd X hx hby at_218 219 rfl ?_
      refine own_i2b X hx hby at_219 220 rfl ?_
      refine own_bastore X hx hby hZ eT A_b129b15 (by decide) at_220 221 rfl ?_
      intro T220 h220 X eT W A
      have A_b77 := A_b77.other W ne_b77_b129b15
      have E_b77 := E_b77.wr W
      have E_b114 := E_b114.wr W
      have F_dataType_b114 := F_dataType_b114.other W (Or.inl ne_b114_b129b15)
      have F_stringValue_b114 := F_stringValue_b114.other W (Or.inl ne_b114_b129b15)
      have F_binaryValue_b114 := F_binaryValue_b114.other W (Or.inl ne_b114_b129b15)
      have A_b122b13 := A_b122b13.other W ne_b122b13_b129b15
      have E_b122b13 := E_b122b13.wr W
      have E_b129b15 := E_b129b15.wr W
      have A_b129b15 : Afi Z h220 b129b15 .byte 2 (updI ar122 0 (nar .byte ((v20 + (1 : Int32)).toInt8.toInt32))) := A
      have N := Fr.snoc X N g_b129b15
      have K := K.wr W (Or.inr sz_b129b15)
      have Zs := Nat.le_trans Zs (Keep.of_wr W).1
      refine own_iload X hx hby (2 : Int32) at_221 rfl 223 rfl ?_
      refine own_iconst X hx hby (1 : Int32) at_223 rfl 224 rfl ?_
      have c224 : (1 : Int32) < (2 : Int32) := by decide
      refine own_icmp_le X hx hby at_224 245 227 (by decide) rfl (fun q => absurd c224 q) (fun _ => ?_)
      refine own_aload X hx hby (.ref b77) at_227 rfl rfl 229 rfl ?_
      refine own_iconst X hx hby (1 : Int32) at_229 rfl 230 rfl ?_
      refine own_iload X hx hby v24 at_230 rfl 232 rfl ?_
      refine own_iconst X hx hby (1 : Int32) at_232 rfl 233 rfl ?_
      refine own_iadd X hx hby at_233 234 rfl ?_
      refine own_i2b X hx hby at_234 235 rfl ?_
      refine own_bastore X hx hby hZ eT A_b77 (by decide) at_235 236 rfl ?_
      intro T235 h235 X eT W A
      have E_b77 := E_b77.wr W
      have E_b114 := E_b114.wr W
      have F_dataType_b114 := F_dataType_b114.other W (Or.inl (Ne.symm ne_b77_b114))
      have F_stringValue_b114 := F_stringValue_b114.other W (Or.inl (Ne.symm ne_b77_b114))
      have F_binaryValue_b114 := F_binaryValue_b114.other W (Or.inl (Ne.symm ne_b77_b114))
      have A_b122b13 := A_b122b13.other W (Ne.symm ne_b77_b122b13)
      have E_b122b13 := E_b122b13.wr W
      have A_b129b15 := A_b129b15.other W (Ne.symm ne_b77_b129b15)
      have E_b129b15 := E_b129b15.wr W
      have A_b77 : Afi Z h235 b77 .byte 2 (updI (updI (updI (updI (fun _ => (0 : Int32)) 0 (nar .byte v20)) 1 (nar .byte v24)) 0 (nar .byte ((v20 + (1 : Int32)).toInt8.toInt32))) 1 (nar .byte ((v24 + (1 : Int32)).toInt8.toInt32))) := A
      have N := Fr.snoc X N g_b77
      have K := K.wr W (Or.inr sz_b77)
      have Zs := Nat.le_trans Zs (Keep.of_wr W).1
      refine own_aload X hx hby (.ref b129b15) at_236 rfl rfl 238 rfl ?_
      refine own_iconst X hx hby (1 : Int32) at_238 rfl 239 rfl ?_
      refine own_iload X hx hby v24 at_239 rfl 241 rfl ?_
      refine own_iconst X hx hby (1 : Int32) at_241 rfl 242 rfl ?_
      refine own_iadd X hx hby at_242 243 rfl ?_
      refine own_i2b X hx hby at_243 244 rfl ?_
      refine own_bastore X hx hby hZ eT A_b129b15 (by decide) at_244 245 rfl ?_
      intro T244 h244 X eT W A
      have A_b77 := A_b77.other W ne_b77_b129b15
      have E_b77 := E_b77.wr W
      have E_b114 := E_b114.wr W
      have F_dataType_b114 := F_dataType_b114.other W (Or.inl ne_b114_b129b15)
      have F_stringValue_b114 := F_stringValue_b114.other W (Or.inl ne_b114_b129b15)
      have F_binaryValue_b114 := F_binaryValue_b114.other W (Or.inl ne_b114_b129b15)
      have A_b122b13 := A_b122b13.other W ne_b122b13_b129b15
      have E_b122b13 := E_b122b13.wr W
      have E_b129b15 := E_b129b15.wr W
      have A_b129b15 : Afi Z h244 b129b15 .byte 2 (updI (updI ar122 0 (nar .byte ((v20 + (1 : Int32)).toInt8.toInt32))) 1 (nar .byte ((v24 + (1 : Int32)).toInt8.toInt32))) := A
      have N := Fr.snoc X N g_b129b15
      have K := K.wr W (Or.inr sz_b129b15)
      have Zs := Nat.le_trans Zs (Keep.of_wr W).1
      refine own_iload X hx hby (2 : Int32) at_245 rfl 247 rfl ?_
      refine own_iconst X hx hby (2 : Int32) at_247 rfl 248 rfl ?_
      have c248 : ¬ (2 : Int32) < (2 : Int32) := by decide
      refine own_icmp_le X hx hby at_248 269 251 (by decide) rfl (fun _ => ?_) (fun q => absurd q c248)
      refine own_aload X hx hby (.ref b114) at_269 rfl rfl 271 rfl ?_
      refine own_callV X hx hby hZ (st := []) [] rfl hown (hw _ (List.mem_of_getElem? (i := 30) rfl)) (hw _ (List.mem_of_getElem? (i := 31) rfl)) (hw _ (List.mem_of_getElem? (i := 33) rfl)) (hw _ (List.mem_of_getElem? (i := 32) rfl)) (hw _ (List.mem_of_getElem? (i := 3) rfl)) (hw _ (List.mem_of_getElem? (i := 34) rfl)) E_b114 (by decide) at_271 (rm4_2 l Z a0 hw b114 b122b13 ar122 h244 n0 Zs A_b122b13 E_b122b13 F_binaryValue_b114) eT pd_2 rfl (by rw [hml]; rfl) (by decide) 0 rfl (by decide) (by decide) (by decide) 274 rfl ?_
      intro T271 L9 v9 X hQ
      obtain ⟨h271, eT⟩ : ∃ z, T271.heap = z := ⟨_, rfl⟩
      rw [eT] at hQ
      have lt_b114 := E_b114.lt
      have lt_b122b13 := A_b122b13.lt
      have lt_b129b15 := A_b129b15.lt
      have lt_b77 := A_b77.lt
      obtain ⟨b271b15, rfl, N9, Kc, hs_b271b15, A_b271b15, E_b271b15⟩ := hQ
      have g_b271b15 : n0 ≤ b271b15 := Nat.le_trans Zs hs_b271b15
      have sz_b271b15 : h0.size ≤ b271b15 := Nat.le_trans K.1 hs_b271b15
      have ne_b114_b271b15 : b114 ≠ b271b15 := Nat.ne_of_lt (Nat.lt_of_lt_of_le lt_b114 hs_b271b15)
      have ne_b122b13_b271b15 : b122b13 ≠ b271b15 := Nat.ne_of_lt (Nat.lt_of_lt_of_le lt_b122b13 hs_b271b15)
      have ne_b129b15_b271b15 : b129b15 ≠ b271b15 := Nat.ne_of_lt (Nat.lt_of_lt_of_le lt_b129b15 hs_b271b15)
      have ne_b77_b271b15 : b77 ≠ b271b15 := Nat.ne_of_lt (Nat.lt_of_lt_of_le lt_b77 hs_b271b15)
      have A_b77 := A_b77.keep Kc nin0
      have E_b77 := E_b77.keep Kc
      have E_b114 := E_b114.keep Kc
      have F_dataType_b114 := F_dataType_b114.keep Kc nin0
      have F_stringValue_b114 := F_stringValue_b114.keep Kc nin0
      have F_binaryValue_b114 := F_binaryValue_b114.keep Kc nin0
      have A_b122b13 := A_b122b13.keep Kc nin0
      have E_b122b13 := E_b122b13.keep Kc
      have A_b129b15 := A_b129b15.keep Kc nin0
      have E_b129b15 := E_b129b15.keep Kc
      have K := K.trans Kc all0
      have Zs := Nat.le_trans Zs Kc.1
      have N := Fr.app N N9
      show Go p e below _ T271 (mkF m 274 #[.val (.int p1), .val (.int p2), .val (.int p3), .val (.int p4), .val (.int (2 : Int32)), .val (.int (0 : Int32)), .val (.int v20), .val (.int v24), .val (.int v28), .val (.ref b77), .val (.ref b114), .val (.ref b129b15), .unset] [(.ref b271b15)])
      refine own_astore X hx hby at_274 rfl (l' := #[.val (.int p1), .val (.int p2), .val (.int p3), .val (.int p4), .val (.int (2 : Int32)), .val (.int (0 : Int32)), .val (.int v20), .val (.int v24), .val (.int v28), .val (.ref b77), .val (.ref b114), .val (.ref b129b15), .val (.ref b271b15)]) rfl 276 rfl ?_
      refine own_aload X hx hby (.ref b271b15) at_276 rfl rfl 278 rfl ?_
      refine own_ifnullN X hx hby at_278 281 rfl ?_
      refine own_aload X hx hby (.ref b271b15) at_281 rfl rfl 283 rfl ?_
      refine own_aload X hx hby (.ref b129b15) at_283 rfl rfl 285 rfl ?_
      refine own_acmp X hx hby false at_285 rfl rfl (decide_eq_false fun q => (Ne.symm ne_b129b15_b271b15) (Value.ref.inj q)) (by decide) 288 (by decide) ?_
      refine own_aload X hx hby (.ref b271b15) at_288 rfl rfl 290 rfl ?_
      refine own_aload X hx hby (.ref b77) at_290 rfl rfl 292 rfl ?_
      refine own_acmp X hx hby false at_292 rfl rfl (decide_eq_false fun q => (Ne.symm ne_b77_b271b15) (Value.ref.inj q)) (by decide) 295 (by decide) ?_
      refine own_aload X hx hby (.ref b271b15) at_295 rfl rfl 297 rfl ?_
      refine own_arraylength X hx hby hZ (2 : Int32) eT A_b271b15 rfl at_297 298 rfl ?_
      refine own_iload X hx hby (2 : Int32) at_298 rfl 300 rfl ?_
      have c300 : (2 : Int32) = (2 : Int32) := by decide
      refine own_icmp_ne X hx hby at_300 323 303 (by decide) rfl (fun q => absurd c300 q) (fun _ => ?_)
      refine own_aload X hx hby (.ref b271b15) at_303 rfl rfl 305 rfl ?_
      refine own_iload X hx hby (2 : Int32) at_305 rfl 307 rfl ?_
      refine own_iload X hx hby v20 at_307 rfl 309 rfl ?_
      refine own_iload X hx hby v24 at_309 rfl 311 rfl ?_
      refine own_iload X hx hby v28 at_311 rfl 313 rfl ?_
      refine own_callS X hx hby hZ (st := []) [(.ref b271b15), (.int (2 : Int32)), (.int v20), (.int v24), (.int v28)] rfl hown (hw _ (List.mem_of_getElem? (i := 35) rfl)) (hw _ (List.mem_of_getElem? (i := 36) rfl)) (hw _ (List.mem_of_getElem? (i := 37) rfl)) (hw _ (List.mem_of_getElem? (i := 38) rfl)) (by decide) at_313 (rm5_2 l Z a0 hw b271b15 v20 v24 v28 ar122 h271 n0 Zs A_b271b15 E_b271b15) eT pd_4 rfl (by rw [hml]; rfl) (by decide) 0 rfl (by decide) (by decide) (by decide) 316 rfl ?_
      intro T313 L9 v9 X hQ
      obtain ⟨rfl, N9, eT⟩ := hQ
      have N := Fr.app N N9
      show Go p e below _ T313 (mkF m 316 #[.val (.int p1), .val (.int p2), .val (.int p3), .val (.int p4), .val (.int (2 : Int32)), .val (.int (0 : Int32)), .val (.int v20), .val (.int v24), .val (.int v28), .val (.ref b77), .val (.ref b114), .val (.ref b129b15), .val (.ref b271b15)] [(.int (f5_2 v20 v24 ar122))])
      have c316 : ¬ (f5_2 v20 v24 ar122) = (0 : Int32) := by rw [← ear122]; simp [f5_2, updI, own_nn _ _ e20, own_nn _ _ e24, own_nn _ _ e28]
      refine own_if_eq X hx hby at_316 323 319 (by decide) rfl (fun q => absurd q c316) (fun _ => ?_)
      refine own_iconst X hx hby (1 : Int32) at_319 rfl 320 rfl ?_
      refine own_goto X hx hby at_320 324 (by decide) ?_
      refine own_retN X hx hby hret hlk (t := .boolean) (z' := (1 : Int32)) (by simp) at_324 (by decide) (by decide) rfl ?_
      rw [eT]
      exact ⟨rfl, N⟩
    · skip
      refine own_iconst X hx hby (1 : Int32) at_11 rfl 12 rfl ?_
      refine own_goto X hx hby at_12 16 (by decide) ?_
      refine own_istore X hx hby at_16 rfl (l' := #[.val (.int p1), .val (.int p2), .val (.int p3), .val (.int p4), .val (.int (2 : Int32)), .val (.int (1 : Int32)), .unset, .unset, .unset, .unset, .unset, .unset, .unset]) rfl 18 rfl ?_
      refine own_iloadN X hx hby p1 at_18 rfl 19 rfl ?_
      refine own_i2b X hx hby at_19 20 rfl ?_
      obtain ⟨v20, e20⟩ : ∃ z : Int32, (p1.toInt8.toInt32) = z := ⟨_, rfl⟩
      refine own_istore X hx hby at_20 e20 (l' := #[.val (.int p1), .val (.int p2), .val (.int p3), .val (.int p4), .val (.int (2 : Int32)), .val (.int (1 : Int32)), .val (.int v20), .unset, .unset, .unset, .unset, .unset, .unset]) rfl 22 rfl ?_
      refine own_iloadN X hx hby p2 at_22 rfl 23 rfl ?_
      refine own_i2b X hx hby at_23 24 rfl ?_
      obtain ⟨v24, e24⟩ : ∃ z : Int32, (p2.toInt8.toInt32) = z := ⟨_, rfl⟩
      refine own_istore X hx hby at_24 e24 (l' := #[.val (.int p1), .val (.int p2), .val (.int p3), .val (.int p4), .val (.int (2 : Int32)), .val (.int (1 : Int32)), .val (.int v20), .val (.int v24), .unset, .unset, .unset, .unset, .unset]) rfl 26 rfl ?_
      refine own_iloadN X hx hby p3 at_26 rfl 27 rfl ?_
      refine own_i2b X hx hby at_27 28 rfl ?_
      obtain ⟨v28, e28⟩ : ∃ z : Int32, (p3.toInt8.toInt32) = z := ⟨_, rfl⟩
      refine own_istore X hx hby at_28 e28 (l' := #[.val (.int p1), .val (.int p2), .val (.int p3), .val (.int p4), .val (.int (2 : Int32)), .val (.int (1 : Int32)), .val (.int v20), .val (.int v24), .val (.int v28), .unset, .unset, .unset, .unset]) rfl 30 rfl ?_
      refine own_aconstNull X hx hby at_30 31 rfl ?_
      refine own_astore X hx hby at_31 rfl (l' := #[.val (.int p1), .val (.int p2), .val (.int p3), .val (.int p4), .val (.int (2 : Int32)), .val (.int (1 : Int32)), .val (.int v20), .val (.int v24), .val (.int v28), .val .null, .unset, .unset, .unset]) rfl 33 rfl ?_
      refine own_iload X hx hby (1 : Int32) at_33 rfl 35 rfl ?_
      have c35 : ¬ (1 : Int32) = (0 : Int32) := by decide
      refine own_if_ne X hx hby at_35 114 38 (by decide) rfl (fun _ => ?_) (fun q => absurd q c35)
      refine own_new X hx hby hZ hown (hw _ (List.mem_of_getElem? (i := 1) rfl)) (hw _ (List.mem_of_getElem? (i := 2) rfl)) (hw _ (List.mem_of_getElem? (i := 3) rfl)) eT at_114 (by decide) (by decide) 117 rfl ?_
      intro T114 h114 b114 gb114 X eT Ex A D
      have g_b114 : n0 ≤ b114 := by rw [gb114]; exact Zs
      have sz_b114 : h0.size ≤ b114 := by rw [gb114]; exact K.1
      have E_b114 := A
      have F_dataType_b114 : Fld Z h114 b114 "com/example/inflight/inflight/AttributeValue" "dataType" "Ljava/lang/String;" .null := D (Or.inr (hw _ (List.mem_of_getElem? (i := 25) rfl))) (ty := (.object "java/lang/String")) (by decide)
      have F_stringValue_b114 : Fld Z h114 b114 "com/example/inflight/inflight/AttributeValue" "stringValue" "Ljava/lang/String;" .null := D (Or.inr (hw _ (List.mem_of_getElem? (i := 27) rfl))) (ty := (.object "java/lang/String")) (by decide)
      have F_binaryValue_b114 : Fld Z h114 b114 "com/example/inflight/inflight/AttributeValue" "binaryValue" "[B" .null := D (Or.inr (hw _ (List.mem_of_getElem? (i := 29) rfl))) (ty := (.array .byte)) (by decide)
      have K := K.ext Ex
      have Zs := Nat.le_trans Zs Ex.1
      refine own_dup X hx hby at_117 rfl 118 rfl ?_
      refine own_aconstNull X hx hby at_118 119 rfl ?_
      refine own_aconstNull X hx hby at_119 120 rfl ?_
      refine own_aload X hx hby .null at_120 rfl rfl 122 rfl ?_
      refine own_callC X hx hby hZ (st := [(.ref b114)]) [.null, .null, .null] rfl rfl hown (hw _ (List.mem_of_getElem? (i := 4) rfl)) (hw _ (List.mem_of_getElem? (i := 5) rfl)) (hw _ (List.mem_of_getElem? (i := 3) rfl)) (hw _ (List.mem_of_getElem? (i := 6) rfl)) (by decide) at_122 (rm1_n l Z a0 hw b114 h114 n0 Zs E_b114 F_dataType_b114 F_stringValue_b114 F_binaryValue_b114 g_b114) eT pd_3 rfl (by rw [hml]; rfl) (by decide) 1 rfl (by decide) (by decide) (by decide) 125 rfl ?_
      intro T122 L9 v9 X hQ
      obtain ⟨h122, eT⟩ : ∃ z, T122.heap = z := ⟨_, rfl⟩
      rw [eT] at hQ
      obtain ⟨rfl, N9, Kc, E_b114, F_dataType_b114, F_stringValue_b114, F_binaryValue_b114⟩ := hQ
      have K := K.trans Kc (allS (Or.inr sz_b114) all0)
      have Zs := Nat.le_trans Zs Kc.1
      have N := Fr.app N N9
      show Go p e below _ T122 (mkF m 125 #[.val (.int p1), .val (.int p2), .val (.int p3), .val (.int p4), .val (.int (2 : Int32)), .val (.int (1 : Int32)), .val (.int v20), .val (.int v24), .val (.int v28), .val .null, .unset, .unset, .unset] [(.ref b114)])
      refine own_astore X hx hby at_125 rfl (l' := #[.val (.int p1), .val (.int p2), .val (.int p3), .val (.int p4), .val (.int (2 : Int32)), .val (.int (1 : Int32)), .val (.int v20), .val (.int v24), .val (.int v28), .val .null, .val (.ref b114), .unset, .unset]) rfl 127 rfl ?_
      refine own_aload X hx hby (.ref b114) at_127 rfl rfl 129 rfl ?_
      refine own_callV X hx hby hZ (st := []) [] rfl hown (hw _ (List.mem_of_getElem? (i := 30) rfl)) (hw _ (List.mem_of_getElem? (i := 31) rfl)) (hw _ (List.mem_of_getElem? (i := 33) rfl)) (hw _ (List.mem_of_getElem? (i := 32) rfl)) (hw _ (List.mem_of_getElem? (i := 3) rfl)) (hw _ (List.mem_of_getElem? (i := 34) rfl)) E_b114 (by decide) at_129 (rm4_n l Z a0 hw b114 h122 n0 Zs F_binaryValue_b114) eT pd_2 rfl (by rw [hml]; rfl) (by decide) 0 rfl (by decide) (by decide) (by decide) 132 rfl ?_
      intro T129 L9 v9 X hQ
      obtain ⟨rfl, N9, eT⟩ := hQ
      have N := Fr.app N N9
      show Go p e below _ T129 (mkF m 132 #[.val (.int p1), .val (.int p2), .val (.int p3), .val (.int p4), .val (.int (2 : Int32)), .val (.int (1 : Int32)), .val (.int v20), .val (.int v24), .val (.int v28), .val .null, .val (.ref b114), .unset, .unset] [.null])
      refine own_astore X hx hby at_132 rfl (l' := #[.val (.int p1), .val (.int p2), .val (.int p3), .val (.int p4), .val (.int (2 : Int32)), .val (.int (1 : Int32)), .val (.int v20), .val (.int v24), .val (.int v28), .val .null, .val (.ref b114), .val .null, .unset]) rfl 134 rfl ?_
      refine own_iload X hx hby (1 : Int32) at_134 rfl 136 rfl ?_
      have c136 : ¬ (1 : Int32) = (0 : Int32) := by decide
      refine own_if_eq X hx hby at_136 158 139 (by decide) rfl (fun q => absurd q c136) (fun _ => ?_)
      refine own_aload X hx hby .null at_139 rfl rfl 141 rfl ?_
      refine own_ifnonnullN X hx hby at_141 144 rfl ?_
      refine own_aload X hx hby (.ref b114) at_144 rfl rfl 146 rfl ?_
      refine own_callV X hx hby hZ (st := []) [] rfl hown (hw _ (List.mem_of_getElem? (i := 30) rfl)) (hw _ (List.mem_of_getElem? (i := 31) rfl)) (hw _ (List.mem_of_getElem? (i := 33) rfl)) (hw _ (List.mem_of_getElem? (i := 32) rfl)) (hw _ (List.mem_of_getElem? (i := 3) rfl)) (hw _ (List.mem_of_getElem? (i := 34) rfl)) E_b114 (by decide) at_146 (rm4_n l Z a0 hw b114 h122 n0 Zs F_binaryValue_b114) eT pd_2 rfl (by rw [hml]; rfl) (by decide) 0 rfl (by decide) (by decide) (by decide) 149 rfl ?_
      intro T146 L9 v9 X hQ
      obtain ⟨rfl, N9, eT⟩ := hQ
      have N := Fr.app N N9
      show Go p e below _ T146 (mkF m 149 #[.val (.int p1), .val (.int p2), .val (.int p3), .val (.int p4), .val (.int (2 : Int32)), .val (.int (1 : Int32)), .val (.int v20), .val (.int v24), .val (.int v28), .val .null, .val (.ref b114), .val .null, .unset] [.null])
      refine own_ifnonnullN X hx hby at_149 152 rfl ?_
      refine own_iconst X hx hby (1 : Int32) at_152 rfl 153 rfl ?_
      refine own_goto X hx hby at_153 157 (by decide) ?_
      refine own_retN X hx hby hret hlk (t := .boolean) (z' := (1 : Int32)) (by simp) at_157 (by decide) (by decide) rfl ?_
      rw [eT]
      exact ⟨rfl, N⟩
  · skip
    refine own_iloadN X hx hby p4 at_5 rfl 6 rfl ?_
    refine own_iconst X hx hby (4 : Int32) at_6 rfl 7 rfl ?_
    refine own_iand X hx hby at_7 8 rfl ?_
    refine own_if_eq X hx hby at_8 15 11 (by decide) rfl (fun c8 => ?_) (fun c8 => ?_)
    · skip
      refine own_iconst X hx hby (0 : Int32) at_15 rfl 16 rfl ?_
      refine own_istore X hx hby at_16 rfl (l' := #[.val (.int p1), .val (.int p2), .val (.int p3), .val (.int p4), .val (.int (3 : Int32)), .val (.int (0 : Int32)), .unset, .unset, .unset, .unset, .unset, .unset, .unset]) rfl 18 rfl ?_
      refine own_iloadN X hx hby p1 at_18 rfl 19 rfl ?_
      refine own_i2b X hx hby at_19 20 rfl ?_
      obtain ⟨v20, e20⟩ : ∃ z : Int32, (p1.toInt8.toInt32) = z := ⟨_, rfl⟩
      refine own_istore X hx hby at_20 e20 (l' := #[.val (.int p1), .val (.int p2), .val (.int p3), .val (.int p4), .val (.int (3 : Int32)), .val (.int (0 : Int32)), .val (.int v20), .unset, .unset, .unset, .unset, .unset, .unset]) rfl 22 rfl ?_
      refine own_iloadN X hx hby p2 at_22 rfl 23 rfl ?_
      refine own_i2b X hx hby at_23 24 rfl ?_
      obtain ⟨v24, e24⟩ : ∃ z : Int32, (p2.toInt8.toInt32) = z := ⟨_, rfl⟩
      refine own_istore X hx hby at_24 e24 (l' := #[.val (.int p1), .val (.int p2), .val (.int p3), .val (.int p4), .val (.int (3 : Int32)), .val (.int (0 : Int32)), .val (.int v20), .val (.int v24), .unset, .unset, .unset, .unset, .unset]) rfl 26 rfl ?_
      refine own_iloadN X hx hby p3 at_26 rfl 27 rfl ?_
      refine own_i2b X hx hby at_27 28 rfl ?_
      obtain ⟨v28, e28⟩ : ∃ z : Int32, (p3.toInt8.toInt32) = z := ⟨_, rfl⟩
      refine own_istore X hx hby at_28 e28 (l' := #[.val (.int p1), .val (.int p2), .val (.int p3), .val (.int p4), .val (.int (3 : Int32)), .val (.int (0 : Int32)), .val (.int v20), .val (.int v24), .val (.int v28), .unset, .unset, .unset, .unset]) rfl 30 rfl ?_
      refine own_aconstNull X hx hby at_30 31 rfl ?_
      refine own_astore X hx hby at_31 rfl (l' := #[.val (.int p1), .val (.int p2), .val (.int p3), .val (.int p4), .val (.int (3 : Int32)), .val (.int (0 : Int32)), .val (.int v20), .val (.int v24), .val (.int v28), .val .null, .unset, .unset, .unset]) rfl 33 rfl ?_
      refine own_iload X hx hby (0 : Int32) at_33 rfl 35 rfl ?_
      have c35 : (0 : Int32) = (0 : Int32) := by decide
      refine own_if_ne X hx hby at_35 114 38 (by decide) rfl (fun q => absurd c35 q) (fun _ => ?_)
      refine own_iload X hx hby (3 : Int32) at_38 rfl 40 rfl ?_
      have c40 : ¬ (3 : Int32) = (0 : Int32) := by decide
      refine own_if_ne X hx hby at_40 51 43 (by decide) rfl (fun _ => ?_) (fun q => absurd q c40)
      refine own_iload X hx hby (3 : Int32) at_51 rfl 53 rfl ?_
      refine own_iconst X hx hby (1 : Int32) at_53 rfl 54 rfl ?_
      have c54 : ¬ (3 : Int32) = (1 : Int32) := by decide
      refine own_icmp_ne X hx hby at_54 70 57 (by decide) rfl (fun _ => ?_) (fun q => absurd q c54)
      refine own_iload X hx hby (3 : Int32) at_70 rfl 72 rfl ?_
      refine own_iconst X hx hby (2 : Int32) at_72 rfl 73 rfl ?_
      have c73 : ¬ (3 : Int32) = (2 : Int32) := by decide
      refine own_icmp_ne X hx hby at_73 94 76 (by decide) rfl (fun _ => ?_) (fun q => absurd q c73)
      refine own_iconst X hx hby (3 : Int32) at_94 rfl 95 rfl ?_
      refine own_newarray X hx hby hZ (hw _ (List.mem_of_getElem? (i := 0) rfl)) eT at_95 (z := (3 : Int32)) (by decide) (n := 3) rfl (cap := 3) (by decide) (by decide) (by decide) (by decide) (ad := "[B") rfl 97 rfl ?_
      intro T95 h95 b95 gb95 X eT Ex A A2
      have g_b95 : n0 ≤ b95 := by rw [gb95]; exact Zs
      have sz_b95 : h0.size ≤ b95 := by rw [gb95]; exact K.1
      have A_b95 : Afi Z h95 b95 .byte 3 (fun _ => (0 : Int32)) := A
      have E_b95 := A2
      have K := K.ext Ex
      have Zs := Nat.le_trans Zs Ex.1
      refine own_dup X hx hby at_97 rfl 98 rfl ?_
      refine own_iconst X hx hby (0 : Int32) at_98 rfl 99 rfl ?_
      refine own_iload X hx hby v20 at_99 rfl 101 rfl ?_
      refine own_bastore X hx hby hZ eT A_b95 (by decide) at_101 102 rfl ?_
      intro T101 h101 X eT W A
      have E_b95 := E_b95.wr W
      have A_b95 : Afi Z h101 b95 .byte 3 (updI (fun _ => (0 : Int32)) 0 (nar .byte v20)) := A
      have N := Fr.snoc X N g_b95
      have K := K.wr W (Or.inr sz_b95)
      have Zs := Nat.le_trans Zs (Keep.of_wr W).1
      refine own_dup X hx hby at_102 rfl 103 rfl ?_
      refine own_iconst X hx hby (1 : Int32) at_103 rfl 104 rfl ?_
      refine own_iload X hx hby v24 at_104 rfl 106 rfl ?_
      refine own_bastore X hx hby hZ eT A_b95 (by decide) at_106 107 rfl ?_
      intro T106 h106 X eT W A
      have E_b95 := E_b95.wr W
      have A_b95 : Afi Z h106 b95 .byte 3 (updI (updI (fun _ => (0 : Int32)) 0 (nar .byte v20)) 1 (nar .byte v24)) := A
      have N := Fr.snoc X N g_b95
      have K := K.wr W (Or.inr sz_b95)
      have Zs := Nat.le_trans Zs (Keep.of_wr W).1
      refine own_dup X hx hby at_107 rfl 108 rfl ?_
      refine own_iconst X hx hby (2 : Int32) at_108 rfl 109 rfl ?_
      refine own_iload X hx hby v28 at_109 rfl 111 rfl ?_
      refine own_bastore X hx hby hZ eT A_b95 (by decide) at_111 112 rfl ?_
      intro T111 h111 X eT W A
      have E_b95 := E_b95.wr W
      have A_b95 : Afi Z h111 b95 .byte 3 (updI (updI (updI (fun _ => (0 : Int32)) 0 (nar .byte v20)) 1 (nar .byte v24)) 2 (nar .byte v28)) := A
      have N := Fr.snoc X N g_b95
      have K := K.wr W (Or.inr sz_b95)
      have Zs := Nat.le_trans Zs (Keep.of_wr W).1
      refine own_astore X hx hby at_112 rfl (l' := #[.val (.int p1), .val (.int p2), .val (.int p3), .val (.int p4), .val (.int (3 : Int32)), .val (.int (0 : Int32)), .val (.int v20), .val (.int v24), .val (.int v28), .val (.ref b95), .unset, .unset, .unset]) rfl 114 rfl ?_
      refine own_new X hx hby hZ hown (hw _ (List.mem_of_getElem? (i := 1) rfl)) (hw _ (List.mem_of_getElem? (i := 2) rfl)) (hw _ (List.mem_of_getElem? (i := 3) rfl)) eT at_114 (by decide) (by decide) 117 rfl ?_
      intro T114 h114 b114 gb114 X eT Ex A D
      have g_b114 : n0 ≤ b114 := by rw [gb114]; exact Zs
      have sz_b114 : h0.size ≤ b114 := by rw [gb114]; exact K.1
      have ne_b95_b114 : b95 ≠ b114 := Nat.ne_of_lt (by rw [gb114]; exact A_b95.lt)
      have A_b95 := A_b95.ext Ex
      have E_b95 := E_b95.ext Ex
      have E_b114 := A
      have F_dataType_b114 : Fld Z h114 b114 "com/example/inflight/inflight/AttributeValue" "dataType" "Ljava/lang/String;" .null := D (Or.inr (hw _ (List.mem_of_getElem? (i := 25) rfl))) (ty := (.object "java/lang/String")) (by decide)
      have F_stringValue_b114 : Fld Z h114 b114 "com/example/inflight/inflight/AttributeValue" "stringValue" "Ljava/lang/String;" .null := D (Or.inr (hw _ (List.mem_of_getElem? (i := 27) rfl))) (ty := (.object "java/lang/String")) (by decide)
      have F_binaryValue_b114 : Fld Z h114 b114 "com/example/inflight/inflight/AttributeValue" "binaryValue" "[B" .null := D (Or.inr (hw _ (List.mem_of_getElem? (i := 29) rfl))) (ty := (.array .byte)) (by decide)
      have K := K.ext Ex
      have Zs := Nat.le_trans Zs Ex.1
      refine own_dup X hx hby at_117 rfl 118 rfl ?_
      refine own_aconstNull X hx hby at_118 119 rfl ?_
      refine own_aconstNull X hx hby at_119 120 rfl ?_
      refine own_aload X hx hby (.ref b95) at_120 rfl rfl 122 rfl ?_
      refine own_callC X hx hby hZ (st := [(.ref b114)]) [.null, .null, (.ref b95)] rfl rfl hown (hw _ (List.mem_of_getElem? (i := 4) rfl)) (hw _ (List.mem_of_getElem? (i := 5) rfl)) (hw _ (List.mem_of_getElem? (i := 3) rfl)) (hw _ (List.mem_of_getElem? (i := 6) rfl)) (by decide) at_122 (rm1_3 l Z a0 hw b114 b95 (updI (updI (updI (fun _ => (0 : Int32)) 0 (nar .byte v20)) 1 (nar .byte v24)) 2 (nar .byte v28)) h114 n0 Zs A_b95 E_b95 E_b114 F_dataType_b114 F_stringValue_b114 F_binaryValue_b114 g_b114) eT pd_3 rfl (by rw [hml]; rfl) (by decide) 1 rfl (by decide) (by decide) (by decide) 125 rfl ?_
      intro T122 L9 v9 X hQ
      obtain ⟨h122, eT⟩ : ∃ z, T122.heap = z := ⟨_, rfl⟩
      rw [eT] at hQ
      have lt_b114 := E_b114.lt
      have lt_b95 := A_b95.lt
      obtain ⟨b122b13, rfl, N9, Kc, hs_b122b13, E_b114, F_dataType_b114, F_stringValue_b114, F_binaryValue_b114, A_b122b13, E_b122b13⟩ := hQ
      have g_b122b13 : n0 ≤ b122b13 := Nat.le_trans Zs hs_b122b13
      have sz_b122b13 : h0.size ≤ b122b13 := Nat.le_trans K.1 hs_b122b13
      have ne_b114_b122b13 : b114 ≠ b122b13 := Nat.ne_of_lt (Nat.lt_of_lt_of_le lt_b114 hs_b122b13)
      have ne_b95_b122b13 : b95 ≠ b122b13 := Nat.ne_of_lt (Nat.lt_of_lt_of_le lt_b95 hs_b122b13)
      have A_b95 := A_b95.keep Kc (ninS ne_b95_b114 nin0)
      have E_b95 := E_b95.keep Kc
      obtain ⟨ar122, ear122⟩ : ∃ z : Nat → Int32, (updI (updI (updI (fun _ => (0 : Int32)) 0 (nar .byte v20)) 1 (nar .byte v24)) 2 (nar .byte v28)) = z := ⟨_, rfl⟩
      rw [ear122] at A_b122b13
      have K := K.trans Kc (allS (Or.inr sz_b114) all0)
      have Zs := Nat.le_trans Zs Kc.1
      have N := Fr.app N N9
      show Go p e below _ T122 (mkF m 125 #[.val (.int p1), .val (.int p2), .val (.int p3), .val (.int p4), .val (.int (3 : Int32)), .val (.int (0 : Int32)), .val (.int v20), .val (.int v24), .val (.int v28), .val (.ref b95), .unset, .unset, .unset] [(.ref b114)])
      refine own_astore X hx hby at_125 rfl (l' := #[.val (.int p1), .val (.int p2), .val (.int p3), .val (.int p4), .val (.int (3 : Int32)), .val (.int (0 : Int32)), .val (.int v20), .val (.int v24), .val (.int v28), .val (.ref b95), .val (.ref b114), .unset, .unset]) rfl 127 rfl ?_
      refine own_aload X hx hby (.ref b114) at_127 rfl rfl 129 rfl ?_
      refine own_callV X hx hby hZ (st := []) [] rfl hown (hw _ (List.mem_of_getElem? (i := 30) rfl)) (hw _ (List.mem_of_getElem? (i := 31) rfl)) (hw _ (List.mem_of_getElem? (i := 33) rfl)) (hw _ (List.mem_of_getElem? (i := 32) rfl)) (hw _ (List.mem_of_getElem? (i := 3) rfl)) (hw _ (List.mem_of_getElem? (i := 34) rfl)) E_b114 (by decide) at_129 (rm4_3 l Z a0 hw b114 b122b13 ar122 h122 n0 Zs A_b122b13 E_b122b13 F_binaryValue_b114) eT pd_2 rfl (by rw [hml]; rfl) (by decide) 0 rfl (by decide) (by decide) (by decide) 132 rfl ?_
      intro T129 L9 v9 X hQ
      obtain ⟨h129, eT⟩ : ∃ z, T129.heap = z := ⟨_, rfl⟩
      rw [eT] at hQ
      have lt_b114 := E_b114.lt
      have lt_b122b13 := A_b122b13.lt
      have lt_b95 := A_b95.lt
      obtain ⟨b129b15, rfl, N9, Kc, hs_b129b15, A_b129b15, E_b129b15⟩ := hQ
      have g_b129b15 : n0 ≤ b129b15 := Nat.le_trans Zs hs_b129b15
      have sz_b129b15 : h0.size ≤ b129b15 := Nat.le_trans K.1 hs_b129b15
      have ne_b114_b129b15 : b114 ≠ b129b15 := Nat.ne_of_lt (Nat.lt_of_lt_of_le lt_b114 hs_b129b15)
      have ne_b122b13_b129b15 : b122b13 ≠ b129b15 := Nat.ne_of_lt (Nat.lt_of_lt_of_le lt_b122b13 hs_b129b15)
      have ne_b95_b129b15 : b95 ≠ b129b15 := Nat.ne_of_lt (Nat.lt_of_lt_of_le lt_b95 hs_b129b15)
      have A_b95 := A_b95.keep Kc nin0
      have E_b95 := E_b95.keep Kc
      have E_b114 := E_b114.keep Kc
      have F_dataType_b114 := F_dataType_b114.keep Kc nin0
      have F_stringValue_b114 := F_stringValue_b114.keep Kc nin0
      have F_binaryValue_b114 := F_binaryValue_b114.keep Kc nin0
      have A_b122b13 := A_b122b13.keep Kc nin0
      have E_b122b13 := E_b122b13.keep Kc
      have K := K.trans Kc all0
      have Zs := Nat.le_trans Zs Kc.1
      have N := Fr.app N N9
      show Go p e below _ T129 (mkF m 132 #[.val (.int p1), .val (.int p2), .val (.int p3), .val (.int p4), .val (.int (3 : Int32)), .val (.int (0 : Int32)), .val (.int v20), .val (.int v24), .val (.int v28), .val (.ref b95), .val (.ref b114), .unset, .unset] [(.ref b129b15)])
      refine own_astore X hx hby at_132 rfl (l' := #[.val (.int p1), .val (.int p2), .val (.int p3), .val (.int p4), .val (.int (3 : Int32)), .val (.int (0 : Int32)), .val (.int v20), .val (.int v24), .val (.int v28), .val (.ref b95), .val (.ref b114), .val (.ref b129b15), .unset]) rfl 134 rfl ?_
      refine own_iload X hx hby (0 : Int32) at_134 rfl 136 rfl ?_
      have c136 : (0 : Int32) = (0 : Int32) := by decide
      refine own_if_eq X hx hby at_136 158 139 (by decide) rfl (fun _ => ?_) (fun q => absurd c136 q)
      refine own_aload X hx hby (.ref b129b15) at_158 rfl rfl 160 rfl ?_
      refine own_ifnullN X hx hby at_160 163 rfl ?_
      refine own_aload X hx hby (.ref b129b15) at_163 rfl rfl 165 rfl ?_
      refine own_aload X hx hby (.ref b95) at_165 rfl rfl 167 rfl ?_
      refine own_acmp X hx hby false at_167 rfl rfl (decide_eq_false fun q => (Ne.symm ne_b95_b129b15) (Value.ref.inj q)) (by decide) 170 (by decide) ?_
      refine own_aload X hx hby (.ref b129b15) at_170 rfl rfl 172 rfl ?_
      refine own_arraylength X hx hby hZ (3 : Int32) eT A_b129b15 rfl at_172 173 rfl ?_
      refine own_iload X hx hby (3 : Int32) at_173 rfl 175 rfl ?_
      have c175 : (3 : Int32) = (3 : Int32) := by decide
      refine own_icmp_eq X hx hby at_175 180 178 (by decide) rfl (fun _ => ?_) (fun q => absurd c175 q)
      refine own_aload X hx hby (.ref b129b15) at_180 rfl rfl 182 rfl ?_
      refine own_iload X hx hby (3 : Int32) at_182 rfl 184 rfl ?_
      refine own_iload X hx hby v20 at_184 rfl 186 rfl ?_
      refine own_iload X hx hby v24 at_186 rfl 188 rfl ?_
      refine own_iload X hx hby v28 at_188 rfl 190 rfl ?_
      refine own_callS X hx hby hZ (st := []) [(.ref b129b15), (.int (3 : Int32)), (.int v20), (.int v24), (.int v28)] rfl hown (hw _ (List.mem_of_getElem? (i := 35) rfl)) (hw _ (List.mem_of_getElem? (i := 36) rfl)) (hw _ (List.mem_of_getElem? (i := 37) rfl)) (hw _ (List.mem_of_getElem? (i := 38) rfl)) (by decide) at_190 (rm5_3 l Z a0 hw b129b15 v20 v24 v28 ar122 h129 n0 Zs A_b129b15 E_b129b15) eT pd_4 rfl (by rw [hml]; rfl) (by decide) 0 rfl (by decide) (by decide) (by decide) 193 rfl ?_
      intro T190 L9 v9 X hQ
      obtain ⟨rfl, N9, eT⟩ := hQ
      have N := Fr.app N N9
      show Go p e below _ T190 (mkF m 193 #[.val (.int p1), .val (.int p2), .val (.int p3), .val (.int p4), .val (.int (3 : Int32)), .val (.int (0 : Int32)), .val (.int v20), .val (.int v24), .val (.int v28), .val (.ref b95), .val (.ref b114), .val (.ref b129b15), .unset] [(.int (f5_3 v20 v24 v28 ar122))])
      have c193 : ¬ (f5_3 v20 v24 v28 ar122) = (0 : Int32) := by rw [← ear122]; simp [f5_3, updI, own_nn _ _ e20, own_nn _ _ e24, own_nn _ _ e28]
      refine own_if_ne X hx hby at_193 198 196 (by decide) rfl (fun _ => ?_) (fun q => absurd q c193)
      refine own_iload X hx hby (3 : Int32) at_198 rfl 200 rfl ?_
      have c200 : (0 : Int32) < (3 : Int32) := by decide
      refine own_if_le X hx hby at_200 221 203 (by decide) rfl (fun q => absurd c200 q) (fun _ => ?_)
      refine own_aload X hx hby (.ref b95) at_203 rfl rfl 205 rfl ?_
      refine own_iconst X hx hby (0 : Int32) at_205 rfl 206 rfl ?_
      refine own_iload X hx hby v20 at_206 rfl 208 rfl ?_
      refine own_iconst X hx hby (1 : Int32) at_208 rfl 209 rfl ?_
      refine own_iadd X hx hby at_209 210 rfl ?_
      refine own_i2b X hx hby at_210 211 rfl ?_
      refine own_bastore X hx hby hZ eT A_b95 (by decide) at_211 212 rfl ?_
      intro T211 h211 X eT W A
      have E_b95 := E_b95.wr W
      have E_b114 := E_b114.wr W
      have F_dataType_b114 := F_dataType_b114.other W (Or.inl (Ne.symm ne_b95_b114))
      have F_stringValue_b114 := F_stringValue_b114.other W (Or.inl (Ne.symm ne_b95_b114))
      have F_binaryValue_b114 := F_binaryValue_b114.other W (Or.inl (Ne.symm ne_b95_b114))
      have A_b122b13 := A_b122b13.other W (Ne.symm ne_b95_b122b13)
      have E_b122b13 := E_b122b13.wr W
      have A_b129b15 := A_b129b15.other W (Ne.symm ne_b95_b129b15)
      have E_b129b15 := E_b129b15.wr W
      have A_b95 : Afi Z h211 b95 .byte 3 (updI (updI (updI (updI (fun _ => (0 : Int32)) 0 (nar .byte v20)) 1 (nar .byte v24)) 2 (nar .byte v28)) 0 (nar .byte ((v20 + (1 : Int32)).toInt8.toInt32))) := A
      have N := Fr.snoc X N g_b95
      have K := K.wr W (Or.inr sz_b95)
      have Zs := Nat.le_trans Zs (Keep.of_wr W).1
      refine own_aload X hx hby (.ref b129b15) at_212 rfl rfl 214 rfl ?_
      refine own_iconst X hx hby (0 : Int32) at_214 rfl 215 rfl ?_
      refine own_iload X hx hby v20 at_215 rfl 217 rfl ?_
      refine own_iconst X hx hby (1 : Int32) at_217 rfl 218 rfl ?_
      refine own_iadd X hx hby at_218 219 rfl ?_
      refine own_i2b X hx hby at_219 220 rfl ?_
      refine own_bastore X hx hby hZ eT A_b129b15 (by decide) at_220 221 rfl ?_
      intro T220 h220 X eT W A
      have A_b95 := A_b95.other W ne_b95_b129b15
      have E_b95 := E_b95.wr W
      have E_b114 := E_b114.wr W
      have F_dataType_b114 := F_dataType_b114.other W (Or.inl ne_b114_b129b15)
      have F_stringValue_b114 := F_stringValue_b114.other W (Or.inl ne_b114_b129b15)
      have F_binaryValue_b114 := F_binaryValue_b114.other W (Or.inl ne_b114_b129b15)
      have A_b122b13 := A_b122b13.other W ne_b122b13_b129b15
      have E_b122b13 := E_b122b13.wr W
      have E_b129b15 := E_b129b15.wr W
      have A_b129b15 : Afi Z h220 b129b15 .byte 3 (updI ar122 0 (nar .byte ((v20 + (1 : Int32)).toInt8.toInt32))) := A
      have N := Fr.snoc X N g_b129b15
      have K := K.wr W (Or.inr sz_b129b15)
      have Zs := Nat.le_trans Zs (Keep.of_wr W).1
      refine own_iload X hx hby (3 : Int32) at_221 rfl 223 rfl ?_
      refine own_iconst X hx hby (1 : Int32) at_223 rfl 224 rfl ?_
      have c224 : (1 : Int32) < (3 : Int32) := by decide
      refine own_icmp_le X hx hby at_224 245 227 (by decide) rfl (fun q => absurd c224 q) (fun _ => ?_)
      refine own_aload X hx hby (.ref b95) at_227 rfl rfl 229 rfl ?_
      refine own_iconst X hx hby (1 : Int32) at_229 rfl 230 rfl ?_
      refine own_iload X hx hby v24 at_230 rfl 232 rfl ?_
      refine own_iconst X hx hby (1 : Int32) at_232 rfl 233 rfl ?_
      refine own_iadd X hx hby at_233 234 rfl ?_
      refine own_i2b X hx hby at_234 235 rfl ?_
      refine own_bastore X hx hby hZ eT A_b95 (by decide) at_235 236 rfl ?_
      intro T235 h235 X eT W A
      have E_b95 := E_b95.wr W
      have E_b114 := E_b114.wr W
      have F_dataType_b114 := F_dataType_b114.other W (Or.inl (Ne.symm ne_b95_b114))
      have F_stringValue_b114 := F_stringValue_b114.other W (Or.inl (Ne.symm ne_b95_b114))
      have F_binaryValue_b114 := F_binaryValue_b114.other W (Or.inl (Ne.symm ne_b95_b114))
      have A_b122b13 := A_b122b13.other W (Ne.symm ne_b95_b122b13)
      have E_b122b13 := E_b122b13.wr W
      have A_b129b15 := A_b129b15.other W (Ne.symm ne_b95_b129b15)
      have E_b129b15 := E_b129b15.wr W
      have A_b95 : Afi Z h235 b95 .byte 3 (updI (updI (updI (updI (updI (fun _ => (0 : Int32)) 0 (nar .byte v20)) 1 (nar .byte v24)) 2 (nar .byte v28)) 0 (nar .byte ((v20 + (1 : Int32)).toInt8.toInt32))) 1 (nar .byte ((v24 + (1 : Int32)).toInt8.toInt32))) := A
      have N := Fr.snoc X N g_b95
      have K := K.wr W (Or.inr sz_b95)
      have Zs := Nat.le_trans Zs (Keep.of_wr W).1
      refine own_aload X hx hby (.ref b129b15) at_236 rfl rfl 238 rfl ?_
      refine own_iconst X hx hby (1 : Int32) at_238 rfl 239 rfl ?_
      refine own_iload X hx hby v24 at_239 rfl 241 rfl ?_
      refine own_iconst X hx hby (1 : Int32) at_241 rfl 242 rfl ?_
      refine own_iadd X hx hby at_242 243 rfl ?_
      refine own_i2b X hx hby at_243 244 rfl ?_
      refine own_bastore X hx hby hZ eT A_b129b15 (by decide) at_244 245 rfl ?_
      intro T244 h244 X eT W A
      have A_b95 := A_b95.other W ne_b95_b129b15
      have E_b95 := E_b95.wr W
      have E_b114 := E_b114.wr W
      have F_dataType_b114 := F_dataType_b114.other W (Or.inl ne_b114_b129b15)
      have F_stringValue_b114 := F_stringValue_b114.other W (Or.inl ne_b114_b129b15)
      have F_binaryValue_b114 := F_binaryValue_b114.other W (Or.inl ne_b114_b129b15)
      have A_b122b13 := A_b122b13.other W ne_b122b13_b129b15
      have E_b122b13 := E_b122b13.wr W
      have E_b129b15 := E_b129b15.wr W
      have A_b129b15 : Afi Z h244 b129b15 .byte 3 (updI (updI ar122 0 (nar .byte ((v20 + (1 : Int32)).toInt8.toInt32))) 1 (nar .byte ((v24 + (1 : Int32)).toInt8.toInt32))) := A
      have N := Fr.snoc X N g_b129b15
      have K := K.wr W (Or.inr sz_b129b15)
      have Zs := Nat.le_trans Zs (Keep.of_wr W).1
      refine own_iload X hx hby (3 : Int32) at_245 rfl 247 rfl ?_
      refine own_iconst X hx hby (2 : Int32) at_247 rfl 248 rfl ?_
      have c248 : (2 : Int32) < (3 : Int32) := by decide
      refine own_icmp_le X hx hby at_248 269 251 (by decide) rfl (fun q => absurd c248 q) (fun _ => ?_)
      refine own_aload X hx hby (.ref b95) at_251 rfl rfl 253 rfl ?_
      refine own_iconst X hx hby (2 : Int32) at_253 rfl 254 rfl ?_
      refine own_iload X hx hby v28 at_254 rfl 256 rfl ?_
      refine own_iconst X hx hby (1 : Int32) at_256 rfl 257 rfl ?_
      refine own_iadd X hx hby at_257 258 rfl ?_
      refine own_i2b X hx hby at_258 259 rfl ?_
      refine own_bastore X hx hby hZ eT A_b95 (by decide) at_259 260 rfl ?_
      intro T259 h259 X eT W A
      have E_b95 := E_b95.wr W
      have E_b114 := E_b114.wr W
      have F_dataType_b114 := F_dataType_b114.other W (Or.inl (Ne.symm ne_b95_b114))
      have F_stringValue_b114 := F_stringValue_b114.other W (Or.inl (Ne.symm ne_b95_b114))
      have F_binaryValue_b114 := F_binaryValue_b114.other W (Or.inl (Ne.symm ne_b95_b114))
      have A_b122b13 := A_b122b13.other W (Ne.symm ne_b95_b122b13)
      have E_b122b13 := E_b122b13.wr W
      have A_b129b15 := A_b129b15.other W (Ne.symm ne_b95_b129b15)
      have E_b129b15 := E_b129b15.wr W
      have A_b95 : Afi Z h259 b95 .byte 3 (updI (updI (updI (updI (updI (updI (fun _ => (0 : Int32)) 0 (nar .byte v20)) 1 (nar .byte v24)) 2 (nar .byte v28)) 0 (nar .byte ((v20 + (1 : Int32)).toInt8.toInt32))) 1 (nar .byte ((v24 + (1 : Int32)).toInt8.toInt32))) 2 (nar .byte ((v28 + (1 : Int32)).toInt8.toInt32))) := A
      have N := Fr.snoc X N g_b95
      have K := K.wr W (Or.inr sz_b95)
      have Zs := Nat.le_trans Zs (Keep.of_wr W).1
      refine own_aload X hx hby (.ref b129b15) at_260 rfl rfl 262 rfl ?_
      refine own_iconst X hx hby (2 : Int32) at_262 rfl 263 rfl ?_
      refine own_iload X hx hby v28 at_263 rfl 265 rfl ?_
      refine own_iconst X hx hby (1 : Int32) at_265 rfl 266 rfl ?_
      refine own_iadd X hx hby at_266 267 rfl ?_
      refine own_i2b X hx hby at_267 268 rfl ?_
      refine own_bastore X hx hby hZ eT A_b129b15 (by decide) at_268 269 rfl ?_
      intro T268 h268 X eT W A
      have A_b95 := A_b95.other W ne_b95_b129b15
      have E_b95 := E_b95.wr W
      have E_b114 := E_b114.wr W
      have F_dataType_b114 := F_dataType_b114.other W (Or.inl ne_b114_b129b15)
      have F_stringValue_b114 := F_stringValue_b114.other W (Or.inl ne_b114_b129b15)
      have F_binaryValue_b114 := F_binaryValue_b114.other W (Or.inl ne_b114_b129b15)
      have A_b122b13 := A_b122b13.other W ne_b122b13_b129b15
      have E_b122b13 := E_b122b13.wr W
      have E_b129b15 := E_b129b15.wr W
      have A_b129b15 : Afi Z h268 b129b15 .byte 3 (updI (updI (updI ar122 0 (nar .byte ((v20 + (1 : Int32)).toInt8.toInt32))) 1 (nar .byte ((v24 + (1 : Int32)).toInt8.toInt32))) 2 (nar .byte ((v28 + (1 : Int32)).toInt8.toInt32))) := A
      have N := Fr.snoc X N g_b129b15
      have K := K.wr W (Or.inr sz_b129b15)
      have Zs := Nat.le_trans Zs (Keep.of_wr W).1
      refine own_aload X hx hby (.ref b114) at_269 rfl rfl 271 rfl ?_
      refine own_callV X hx hby hZ (st := []) [] rfl hown (hw _ (List.mem_of_getElem? (i := 30) rfl)) (hw _ (List.mem_of_getElem? (i := 31) rfl)) (hw _ (List.mem_of_getElem? (i := 33) rfl)) (hw _ (List.mem_of_getElem? (i := 32) rfl)) (hw _ (List.mem_of_getElem? (i := 3) rfl)) (hw _ (List.mem_of_getElem? (i := 34) rfl)) E_b114 (by decide) at_271 (rm4_3 l Z a0 hw b114 b122b13 ar122 h268 n0 Zs A_b122b13 E_b122b13 F_binaryValue_b114) eT pd_2 rfl (by rw [hml]; rfl) (by decide) 0 rfl (by decide) (by decide) (by decide) 274 rfl ?_
      intro T271 L9 v9 X hQ
      obtain ⟨h271, eT⟩ : ∃ z, T271.heap = z := ⟨_, rfl⟩
      rw [eT] at hQ
      have lt_b114 := E_b114.lt
      have lt_b122b13 := A_b122b13.lt
      have lt_b129b15 := A_b129b15.lt
      have lt_b95 := A_b95.lt
      obtain ⟨b271b15, rfl, N9, Kc, hs_b271b15, A_b271b15, E_b271b15⟩ := hQ
      have g_b271b15 : n0 ≤ b271b15 := Nat.le_trans Zs hs_b271b15
      have sz_b271b15 : h0.size ≤ b271b15 := Nat.le_trans K.1 hs_b271b15
      have ne_b114_b271b15 : b114 ≠ b271b15 := Nat.ne_of_lt (Nat.lt_of_lt_of_le lt_b114 hs_b271b15)
      have ne_b122b13_b271b15 : b122b13 ≠ b271b15 := Nat.ne_of_lt (Nat.lt_of_lt_of_le lt_b122b13 hs_b271b15)
      have ne_b129b15_b271b15 : b129b15 ≠ b271b15 := Nat.ne_of_lt (Nat.lt_of_lt_of_le lt_b129b15 hs_b271b15)
      have ne_b95_b271b15 : b95 ≠ b271b15 := Nat.ne_of_lt (Nat.lt_of_lt_of_le lt_b95 hs_b271b15)
      have A_b95 := A_b95.keep Kc nin0
      have E_b95 := E_b95.keep Kc
      have E_b114 := E_b114.keep Kc
      have F_dataType_b114 := F_dataType_b114.keep Kc nin0
      have F_stringValue_b114 := F_stringValue_b114.keep Kc nin0
      have F_binaryValue_b114 := F_binaryValue_b114.keep Kc nin0
      have A_b122b13 := A_b122b13.keep Kc nin0
      have E_b122b13 := E_b122b13.keep Kc
      have A_b129b15 := A_b129b15.keep Kc nin0
      have E_b129b15 := E_b129b15.keep Kc
      have K := K.trans Kc all0
      have Zs := Nat.le_trans Zs Kc.1
      have N := Fr.app N N9
      show Go p e below _ T271 (mkF m 274 #[.val (.int p1), .val (.int p2), .val (.int p3), .val (.int p4), .val (.int (3 : Int32)), .val (.int (0 : Int32)), .val (.int v20), .val (.int v24), .val (.int v28), .val (.ref b95), .val (.ref b114), .val (.ref b129b15), .unset] [(.ref b271b15)])
      refine own_astore X hx hby at_274 rfl (l' := #[.val (.int p1), .val (.int p2), .val (.int p3), .val (.int p4), .val (.int (3 : Int32)), .val (.int (0 : Int32)), .val (.int v20), .val (.int v24), .val (.int v28), .val (.ref b95), .val (.ref b114), .val (.ref b129b15), .val (.ref b271b15)]) rfl 276 rfl ?_
      refine own_aload X hx hby (.ref b271b15) at_276 rfl rfl 278 rfl ?_
      refine own_ifnullN X hx hby at_278 281 rfl ?_
      refine own_aload X hx hby (.ref b271b15) at_281 rfl rfl 283 rfl ?_
      refine own_aload X hx hby (.ref b129b15) at_283 rfl rfl 285 rfl ?_
      refine own_acmp X hx hby false at_285 rfl rfl (decide_eq_false fun q => (Ne.symm ne_b129b15_b271b15) (Value.ref.inj q)) (by decide) 288 (by decide) ?_
      refine own_aload X hx hby (.ref b271b15) at_288 rfl rfl 290 rfl ?_
      refine own_aload X hx hby (.ref b95) at_290 rfl rfl 292 rfl ?_
      refine own_acmp X hx hby false at_292 rfl rfl (decide_eq_false fun q => (Ne.symm ne_b95_b271b15) (Value.ref.inj q)) (by decide) 295 (by decide) ?_
      refine own_aload X hx hby (.ref b271b15) at_295 rfl rfl 297 rfl ?_
      refine own_arraylength X hx hby hZ (3 : Int32) eT A_b271b15 rfl at_297 298 rfl ?_
      refine own_iload X hx hby (3 : Int32) at_298 rfl 300 rfl ?_
      have c300 : (3 : Int32) = (3 : Int32) := by decide
      refine own_icmp_ne X hx hby at_300 323 303 (by decide) rfl (fun q => absurd c300 q) (fun _ => ?_)
      refine own_aload X hx hby (.ref b271b15) at_303 rfl rfl 305 rfl ?_
      refine own_iload X hx hby (3 : Int32) at_305 rfl 307 rfl ?_
      refine own_iload X hx hby v20 at_307 rfl 309 rfl ?_
      refine own_iload X hx hby v24 at_309 rfl 311 rfl ?_
      refine own_iload X hx hby v28 at_311 rfl 313 rfl ?_
      refine own_callS X hx hby hZ (st := []) [(.ref b271b15), (.int (3 : Int32)), (.int v20), (.int v24), (.int v28)] rfl hown (hw _ (List.mem_of_getElem? (i := 35) rfl)) (hw _ (List.mem_of_getElem? (i := 36) rfl)) (hw _ (List.mem_of_getElem? (i := 37) rfl)) (hw _ (List.mem_of_getElem? (i := 38) rfl)) (by decide) at_313 (rm5_3 l Z a0 hw b271b15 v20 v24 v28 ar122 h271 n0 Zs A_b271b15 E_b271b15) eT pd_4 rfl (by rw [hml]; rfl) (by decide) 0 rfl (by decide) (by decide) (by decide) 316 rfl ?_
      intro T313 L9 v9 X hQ
      obtain ⟨rfl, N9, eT⟩ := hQ
      have N := Fr.app N N9
      show Go p e below _ T313 (mkF m 316 #[.val (.int p1), .val (.int p2), .val (.int p3), .val (.int p4), .val (.int (3 : Int32)), .val (.int (0 : Int32)), .val (.int v20), .val (.int v24), .val (.int v28), .val (.ref b95), .val (.ref b114), .val (.ref b129b15), .val (.ref b271b15)] [(.int (f5_3 v20 v24 v28 ar122))])
      have c316 : ¬ (f5_3 v20 v24 v28 ar122) = (0 : Int32) := by rw [← ear122]; simp [f5_3, updI, own_nn _ _ e20, own_nn _ _ e24, own_nn _ _ e28]
      refine own_if_eq X hx hby at_316 323 319 (by decide) rfl (fun q => absurd q c316) (fun _ => ?_)
      refine own_iconst X hx hby (1 : Int32) at_319 rfl 320 rfl ?_
      refine own_goto X hx hby at_320 324 (by decide) ?_
      refine own_retN X hx hby hret hlk (t := .boolean) (z' := (1 : Int32)) (by simp) at_324 (by decide) (by decide) rfl ?_
      rw [eT]
      exact ⟨rfl, N⟩
    · skip
      refine own_iconst X hx hby (1 : Int32) at_11 rfl 12 rfl ?_
      refine own_goto X hx hby at_12 16 (by decide) ?_
      refine own_istore X hx hby at_16 rfl (l' := #[.val (.int p1), .val (.int p2), .val (.int p3), .val (.int p4), .val (.int (3 : Int32)), .val (.int (1 : Int32)), .unset, .unset, .unset, .unset, .unset, .unset, .unset]) rfl 18 rfl ?_
      refine own_iloadN X hx hby p1 at_18 rfl 19 rfl ?_
      refine own_i2b X hx hby at_19 20 rfl ?_
      obtain ⟨v20, e20⟩ : ∃ z : Int32, (p1.toInt8.toInt32) = z := ⟨_, rfl⟩
      refine own_istore X hx hby at_20 e20 (l' := #[.val (.int p1), .val (.int p2), .val (.int p3), .val (.int p4), .val (.int (3 : Int32)), .val (.int (1 : Int32)), .val (.int v20), .unset, .unset, .unset, .unset, .unset, .unset]) rfl 22 rfl ?_
      refine own_iloadN X hx hby p2 at_22 rfl 23 rfl ?_
      refine own_i2b X hx hby at_23 24 rfl ?_
      obtain ⟨v24, e24⟩ : ∃ z : Int32, (p2.toInt8.toInt32) = z := ⟨_, rfl⟩
      refine own_istore X hx hby at_24 e24 (l' := #[.val (.int p1), .val (.int p2), .val (.int p3), .val (.int p4), .val (.int (3 : Int32)), .val (.int (1 : Int32)), .val (.int v20), .val (.int v24), .unset, .unset, .unset, .unset, .unset]) rfl 26 rfl ?_
      refine own_iloadN X hx hby p3 at_26 rfl 27 rfl ?_
      refine own_i2b X hx hby at_27 28 rfl ?_
      obtain ⟨v28, e28⟩ : ∃ z : Int32, (p3.toInt8.toInt32) = z := ⟨_, rfl⟩
      refine own_istore X hx hby at_28 e28 (l' := #[.val (.int p1), .val (.int p2), .val (.int p3), .val (.int p4), .val (.int (3 : Int32)), .val (.int (1 : Int32)), .val (.int v20), .val (.int v24), .val (.int v28), .unset, .unset, .unset, .unset]) rfl 30 rfl ?_
      refine own_aconstNull X hx hby at_30 31 rfl ?_
      refine own_astore X hx hby at_31 rfl (l' := #[.val (.int p1), .val (.int p2), .val (.int p3), .val (.int p4), .val (.int (3 : Int32)), .val (.int (1 : Int32)), .val (.int v20), .val (.int v24), .val (.int v28), .val .null, .unset, .unset, .unset]) rfl 33 rfl ?_
      refine own_iload X hx hby (1 : Int32) at_33 rfl 35 rfl ?_
      have c35 : ¬ (1 : Int32) = (0 : Int32) := by decide
      refine own_if_ne X hx hby at_35 114 38 (by decide) rfl (fun _ => ?_) (fun q => absurd q c35)
      refine own_new X hx hby hZ hown (hw _ (List.mem_of_getElem? (i := 1) rfl)) (hw _ (List.mem_of_getElem? (i := 2) rfl)) (hw _ (List.mem_of_getElem? (i := 3) rfl)) eT at_114 (by decide) (by decide) 117 rfl ?_
      intro T114 h114 b114 gb114 X eT Ex A D
      have g_b114 : n0 ≤ b114 := by rw [gb114]; exact Zs
      have sz_b114 : h0.size ≤ b114 := by rw [gb114]; exact K.1
      have E_b114 := A
      have F_dataType_b114 : Fld Z h114 b114 "com/example/inflight/inflight/AttributeValue" "dataType" "Ljava/lang/String;" .null := D (Or.inr (hw _ (List.mem_of_getElem? (i := 25) rfl))) (ty := (.object "java/lang/String")) (by decide)
      have F_stringValue_b114 : Fld Z h114 b114 "com/example/inflight/inflight/AttributeValue" "stringValue" "Ljava/lang/String;" .null := D (Or.inr (hw _ (List.mem_of_getElem? (i := 27) rfl))) (ty := (.object "java/lang/String")) (by decide)
      have F_binaryValue_b114 : Fld Z h114 b114 "com/example/inflight/inflight/AttributeValue" "binaryValue" "[B" .null := D (Or.inr (hw _ (List.mem_of_getElem? (i := 29) rfl))) (ty := (.array .byte)) (by decide)
      have K := K.ext Ex
      have Zs := Nat.le_trans Zs Ex.1
      refine own_dup X hx hby at_117 rfl 118 rfl ?_
      refine own_aconstNull X hx hby at_118 119 rfl ?_
      refine own_aconstNull X hx hby at_119 120 rfl ?_
      refine own_aload X hx hby .null at_120 rfl rfl 122 rfl ?_
      refine own_callC X hx hby hZ (st := [(.ref b114)]) [.null, .null, .null] rfl rfl hown (hw _ (List.mem_of_getElem? (i := 4) rfl)) (hw _ (List.mem_of_getElem? (i := 5) rfl)) (hw _ (List.mem_of_getElem? (i := 3) rfl)) (hw _ (List.mem_of_getElem? (i := 6) rfl)) (by decide) at_122 (rm1_n l Z a0 hw b114 h114 n0 Zs E_b114 F_dataType_b114 F_stringValue_b114 F_binaryValue_b114 g_b114) eT pd_3 rfl (by rw [hml]; rfl) (by decide) 1 rfl (by decide) (by decide) (by decide) 125 rfl ?_
      intro T122 L9 v9 X hQ
      obtain ⟨h122, eT⟩ : ∃ z, T122.heap = z := ⟨_, rfl⟩
      rw [eT] at hQ
      obtain ⟨rfl, N9, Kc, E_b114, F_dataType_b114, F_stringValue_b114, F_binaryValue_b114⟩ := hQ
      have K := K.trans Kc (allS (Or.inr sz_b114) all0)
      have Zs := Nat.le_trans Zs Kc.1
      have N := Fr.app N N9
      show Go p e below _ T122 (mkF m 125 #[.val (.int p1), .val (.int p2), .val (.int p3), .val (.int p4), .val (.int (3 : Int32)), .val (.int (1 : Int32)), .val (.int v20), .val (.int v24), .val (.int v28), .val .null, .unset, .unset, .unset] [(.ref b114)])
      refine own_astore X hx hby at_125 rfl (l' := #[.val (.int p1), .val (.int p2), .val (.int p3), .val (.int p4), .val (.int (3 : Int32)), .val (.int (1 : Int32)), .val (.int v20), .val (.int v24), .val (.int v28), .val .null, .val (.ref b114), .unset, .unset]) rfl 127 rfl ?_
      refine own_aload X hx hby (.ref b114) at_127 rfl rfl 129 rfl ?_
      refine own_callV X hx hby hZ (st := []) [] rfl hown (hw _ (List.mem_of_getElem? (i := 30) rfl)) (hw _ (List.mem_of_getElem? (i := 31) rfl)) (hw _ (List.mem_of_getElem? (i := 33) rfl)) (hw _ (List.mem_of_getElem? (i := 32) rfl)) (hw _ (List.mem_of_getElem? (i := 3) rfl)) (hw _ (List.mem_of_getElem? (i := 34) rfl)) E_b114 (by decide) at_129 (rm4_n l Z a0 hw b114 h122 n0 Zs F_binaryValue_b114) eT pd_2 rfl (by rw [hml]; rfl) (by decide) 0 rfl (by decide) (by decide) (by decide) 132 rfl ?_
      intro T129 L9 v9 X hQ
      obtain ⟨rfl, N9, eT⟩ := hQ
      have N := Fr.app N N9
      show Go p e below _ T129 (mkF m 132 #[.val (.int p1), .val (.int p2), .val (.int p3), .val (.int p4), .val (.int (3 : Int32)), .val (.int (1 : Int32)), .val (.int v20), .val (.int v24), .val (.int v28), .val .null, .val (.ref b114), .unset, .unset] [.null])
      refine own_astore X hx hby at_132 rfl (l' := #[.val (.int p1), .val (.int p2), .val (.int p3), .val (.int p4), .val (.int (3 : Int32)), .val (.int (1 : Int32)), .val (.int v20), .val (.int v24), .val (.int v28), .val .null, .val (.ref b114), .val .null, .unset]) rfl 134 rfl ?_
      refine own_iload X hx hby (1 : Int32) at_134 rfl 136 rfl ?_
      have c136 : ¬ (1 : Int32) = (0 : Int32) := by decide
      refine own_if_eq X hx hby at_136 158 139 (by decide) rfl (fun q => absurd q c136) (fun _ => ?_)
      refine own_aload X hx hby .null at_139 rfl rfl 141 rfl ?_
      refine own_ifnonnullN X hx hby at_141 144 rfl ?_
      refine own_aload X hx hby (.ref b114) at_144 rfl rfl 146 rfl ?_
      refine own_callV X hx hby hZ (st := []) [] rfl hown (hw _ (List.mem_of_getElem? (i := 30) rfl)) (hw _ (List.mem_of_getElem? (i := 31) rfl)) (hw _ (List.mem_of_getElem? (i := 33) rfl)) (hw _ (List.mem_of_getElem? (i := 32) rfl)) (hw _ (List.mem_of_getElem? (i := 3) rfl)) (hw _ (List.mem_of_getElem? (i := 34) rfl)) E_b114 (by decide) at_146 (rm4_n l Z a0 hw b114 h122 n0 Zs F_binaryValue_b114) eT pd_2 rfl (by rw [hml]; rfl) (by decide) 0 rfl (by decide) (by decide) (by decide) 149 rfl ?_
      intro T146 L9 v9 X hQ
      obtain ⟨rfl, N9, eT⟩ := hQ
      have N := Fr.app N N9
      show Go p e below _ T146 (mkF m 149 #[.val (.int p1), .val (.int p2), .val (.int p3), .val (.int p4), .val (.int (3 : Int32)), .val (.int (1 : Int32)), .val (.int v20), .val (.int v24), .val (.int v28), .val .null, .val (.ref b114), .val .null, .unset] [.null])
      refine own_ifnonnullN X hx hby at_149 152 rfl ?_
      refine own_iconst X hx hby (1 : Int32) at_152 rfl 153 rfl ?_
      refine own_goto X hx hby at_153 157 (by decide) ?_
      refine own_retN X hx hby hret hlk (t := .boolean) (z' := (1 : Int32)) (by simp) at_157 (by decide) (by decide) rfl ?_
      rw [eT]
      exact ⟨rfl, N⟩
set_option maxRecDepth 65536 in
set_option maxHeartbeats 40000000 in
theorem comes_1 {Post : Tables → Env → Array Value → State → Outcome → State → Prop} (hpost : ∀ tb e args s v u, (limb_1_1.after args s (.returned v) u = true ∧ limb_1_2.after args s (.returned v) u = true ∧ True) → FrameEnd s (.returned v) u (Jvm.fieldLocs frame_1_writes args s ++ Jvm.arrayLocs frame_1_arrays args s ++ Jvm.staticLocs frame_1_statics s) 24 128 → Post tb e args s (.returned v) u) :
    ArmFor flags0 classFile x code maxLocals ret World_1 tables_1 room_1 Calls_1 rest_1 Pre_1 Post := by
  intro l hfl _ _ p e ha hc hk s m args below hf hA hF happ hP
  obtain ⟨hcalls, hrest, hpre⟩ := hP
  obtain ⟨-, -, -, hnamed, -, -, -, hat⟩ := (Spec.applies_iff hf).mp happ
  obtain ⟨hg, hn⟩ := and_e (Cond.before_iff.mp (show (Jvm.Cond.and given_1 narrow_1).before args s = true from hpre))
  obtain ⟨gg1, gg2⟩ := and_e hg
  obtain ⟨gg3, gg4⟩ := and_e gg2
  obtain ⟨gg5, gg6⟩ := and_e gg4
  obtain ⟨gg7, gg8⟩ := and_e gg6
  obtain ⟨w0, w1, w2, w3, rfl⟩ : ∃ w0 w1 w2 w3 : Value, args = #[w0, w1, w2, w3] := by
    have hs : args.size = 4 := by simpa [Cond.value, given_1] using gg1
    obtain ⟨L⟩ := args
    match L, hs with
    | [w0, w1, w2, w3], _ => exact ⟨w0, w1, w2, w3, rfl⟩
  have hw := fun d (hd : d ∈ tables_1) => atoms_spec (ws := Jvm.Cond.code x code maxLocals ret :: tables_1) hat d (List.mem_cons_of_mem _ hd)
  have hfit : Fit s := fun {y c} hc i hi => by
    obtain ⟨ha, rfl⟩ := Array.getElem?_eq_some_iff.mp hc
    have q := List.all_eq_true.mp ((Array.all_eq_true_iff_forall_mem.mp hF) _ (Array.getElem_mem ha)) i (List.mem_range.mpr hi)
    simpa [Array.getElem?_eq_getElem hi] using q
  obtain ⟨i0, ei0⟩ := is_v gg3
  obtain rfl : w0 = (.int i0) := Option.some.inj ei0
  obtain ⟨i1, ei1⟩ := is_v gg5
  obtain rfl : w1 = (.int i1) := Option.some.inj ei1
  obtain ⟨i2, ei2⟩ := is_v gg7
  obtain rfl : w2 = (.int i2) := Option.some.inj ei2
  obtain ⟨i3, ei3⟩ := is_v gg8
  obtain rfl : w3 = (.int i3) := Option.some.inj ei3
  obtain ⟨n, o, h1, h2, h3, _, L, rfl, ⟨rfl, N⟩, hq⟩ := rm0 l s _ hw i0 i1 i2 i3  s.heap s.heap.size (Nat.le_refl _)  tables_1 p e ha hc hk s m _ below hf ((Spec.applies_iff_loose hf).mp happ).1 ⟨rfl, State.Warmed39.refl s, rfl⟩ trivial
  refine ⟨n, _, h1, h2, h3, hpost _ _ _ _ _ _ ⟨Cond.after_iff.mpr rfl, Cond.after_iff.mpr (eq_i res_at (Term.int_eval (1)) rfl), trivial⟩ ⟨hq.1, hq.2.1, (hq.2.2.sift fun y hy => Or.inr (N y hy)).mono (by decide) (by decide)⟩⟩
theorem main_1_1 : Claimed_1_1 := comes_1 fun _ _ _ _ _ _ h hF => ⟨h.1, hF⟩
theorem main_1_2 : Claimed_1_2 := comes_1 fun _ _ _ _ _ _ h hF => ⟨h.2.1, hF⟩
end Jvm.Pilot.@@N@@
namespace Jvm.Pilot.@@N@@
open Jvm Jvm.ClassFile Sem Op Lib Jvm.Free Jvm.Stand Jvm.Pilot.@@N@@.Jvm.D
/-! MADE BY PROGRAM (witnessworld.py) out of the Statement's table words and the real class files: 10 classes; the members and pool entries that the words name. The judged class is class 1, her method 1. -/
namespace start1
open Jvm.ClassFile
def u (s : String) : CpInfo := .utf8 (stringToUtf16 s)
/-- a pool by its gaps: so many unusable entries, then the entry; so many at the end -/
def gap : Nat → List CpInfo → List CpInfo
  | 0, r => r
  | n + 1, r => .unusable :: gap n r
def poolList (es : List (Nat × CpInfo)) (last : Nat) : List CpInfo := es.foldr (fun e r => gap e.1 (e.2 :: r)) (gap last [])
def pool (es : List (Nat × CpInfo)) (last : Nat) : Array CpInfo := ⟨poolList es last⟩
def fileOf (pool : Array CpInfo) (this : Nat) (attrs : Array Attribute := #[]) (ms : Array MethodInfo := #[]) (fl : Nat := 33) (sup : Nat := 0) (ifs : Array Nat := #[]) (fds : Array FieldInfo := #[]) : ClassFile where
  minorVersion := 0
  majorVersion := 65
  constantPool := pool
  accessFlags := fl
  thisClass := this
  superClass := sup
  interfaces := ifs
  fields := fds
  methods := ms
  attributes := attrs
def plain (name : String) (sup : Option ClassId) : Class where
  name := name
  kind := .ordinary
  loader := none
  accessFlags := 33
  super := sup
  interfaces := #[]
  cf := none
  fields := #[]
  methods := #[]
  instanceTypes := #[]
  staticTypes := #[]
  resolved := #[]
  callSites := []
  init := .initialized
  statics := none
  mirror := none

def pool0 : Array CpInfo := pool [(5, u "<init>"), (0, u "()V"), (1, .class_ 10), (1, u "java/lang/Object"), (85, u "clone"), (0, u "()Ljava/lang/Object;")] 26

def k0c0 : Code := { maxStack := 0, maxLocals := 1, code := object_method_1_code, exceptionTable := #[], attributes := #[] }
def k0m0 : Method := { name := "<init>", desc := "()V", sig := { parameters := [], returnType := none }, accessFlags := 1, code := some k0c0 }
def k0m1 : Method := { name := "clone", desc := "()Ljava/lang/Object;", sig := { parameters := [], returnType := some (.object "java/lang/Object") }, accessFlags := 260, code := none }
/-- java/lang/Object -/
def k0 : Class := { plain "java/lang/Object" none with
  accessFlags := 33
  interfaces := #[]
  cf := some (fileOf pool0 8 #[] #[{ accessFlags := 1, nameIndex := 5, descriptorIndex := 6, attributes := #[] }, { accessFlags := 260, nameIndex := 96, descriptorIndex := 97, attributes := #[] }] 33 0 #[] #[])
  fields := #[]
  methods := #[k0m0, k0m1]
  instanceTypes := #[]
  staticTypes := #[]
  resolved := Array.replicate 124 none
  statics := none }

def pool1 : Array CpInfo := pool [(2, .class_ 4), (1, u "java/lang/Object"), (0, u "<init>"), (0, u "()V"), (0, .class_ 8), (0, u "com/example/inflight/inflight/AttributeValue"), (0, .methodref 7 10), (0, .nameAndType 5 11), (0, u "(Ljava/lang/String;Ljava/lang/String;[B)V"), (0, .methodref 7 13), (0, .nameAndType 14 15), (0, u "binaryValue"), (0, u "()[B"), (0, .methodref 17 18), (0, .class_ 19), (0, .nameAndType 20 21), (0, u "com/example/inflight/inflight/AttributeValueBinaryValuePinLaw"), (0, u "same"), (0, u "([BIBBB)Z"), (2, u "law"), (0, u "(IIII)Z")] 5

def k1m0 : Method := { name := "<init>", desc := "()V", sig := { parameters := [], returnType := none }, accessFlags := 1, code := none }
def k1c1 : Code := { maxStack := 5, maxLocals := 13, code := code, exceptionTable := #[], attributes := #[] }
def k1m1 : Method := { name := "law", desc := "(IIII)Z", sig := { parameters := [.int, .int, .int, .int], returnType := some .boolean }, accessFlags := 9, code := some k1c1 }
def k1c2 : Code := { maxStack := 2, maxLocals := 5, code := method_3_code, exceptionTable := #[], attributes := #[] }
def k1m2 : Method := { name := "same", desc := "([BIBBB)Z", sig := { parameters := [(.array .byte), .int, .byte, .byte, .byte], returnType := some .boolean }, accessFlags := 10, code := some k1c2 }
/-- com/example/inflight/inflight/AttributeValueBinaryValuePinLaw -/
def k1 : Class := { plain "com/example/inflight/inflight/AttributeValueBinaryValuePinLaw" (some 0) with
  accessFlags := 49
  interfaces := #[]
  cf := some (fileOf pool1 17 #[] #[{ accessFlags := 1, nameIndex := 5, descriptorIndex := 6, attributes := #[] }, { accessFlags := 9, nameIndex := 24, descriptorIndex := 25, attributes := #[] }, { accessFlags := 10, nameIndex := 20, descriptorIndex := 21, attributes := #[] }] 49 2 #[] #[])
  fields := #[]
  methods := #[k1m0, k1m1, k1m2]
  instanceTypes := #[]
  staticTypes := #[]
  resolved := Array.replicate 31 none
  statics := none }

def pool2 : Array CpInfo := pool [(1, .methodref 2 3), (0, .class_ 4), (0, .nameAndType 5 6), (0, u "java/lang/Object"), (0, u "<init>"), (0, u "()V"), (0, .class_ 8), (0, u "java/lang/Record")] 13

def k2c0 : Code := { maxStack := 1, maxLocals := 1, code := jdk_30_method_1_code, exceptionTable := #[], attributes := #[] }
def k2m0 : Method := { name := "<init>", desc := "()V", sig := { parameters := [], returnType := none }, accessFlags := 4, code := some k2c0 }
/-- java/lang/Record -/
def k2 : Class := { plain "java/lang/Record" (some 0) with
  accessFlags := 1057
  interfaces := #[]
  cf := some (fileOf pool2 7 #[] #[{ accessFlags := 4, nameIndex := 5, descriptorIndex := 6, attributes := #[] }] 1057 2 #[] #[])
  fields := #[]
  methods := #[k2m0]
  instanceTypes := #[]
  staticTypes := #[]
  resolved := Array.replicate 22 none
  statics := none }

def pool3 : Array CpInfo := pool [(1, .methodref 2 3), (0, .class_ 4), (0, .nameAndType 5 6), (0, u "java/lang/Record"), (0, u "<init>"), (0, u "()V"), (0, .methodref 8 9), (0, .class_ 10), (0, .nameAndType 11 12), (0, u "[B"), (0, u "clone"), (0, u "()Ljava/lang/Object;"), (0, .fieldref 14 15), (0, .class_ 16), (0, .nameAndType 17 18), (0, u "com/example/inflight/inflight/AttributeValue"), (0, u "dataType"), (0, u "Ljava/lang/String;"), (0, .fieldref 14 20), (0, .nameAndType 21 18), (0, u "stringValue"), (0, .fieldref 14 23), (0, .nameAndType 24 10), (0, u "binaryValue"), (35, u "(Ljava/lang/String;Ljava/lang/String;[B)V"), (6, u "()[B")] 21

def k3c0 : Code := { maxStack := 2, maxLocals := 4, code := prog_3_method_1_code, exceptionTable := #[], attributes := #[] }
def k3m0 : Method := { name := "<init>", desc := "(Ljava/lang/String;Ljava/lang/String;[B)V", sig := { parameters := [(.object "java/lang/String"), (.object "java/lang/String"), (.array .byte)], returnType := none }, accessFlags := 1, code := some k3c0 }
def k3c1 : Code := { maxStack := 1, maxLocals := 1, code := prog_3_method_2_code, exceptionTable := #[], attributes := #[] }
def k3m1 : Method := { name := "binaryValue", desc := "()[B", sig := { parameters := [], returnType := some (.array .byte) }, accessFlags := 1, code := some k3c1 }
/-- com/example/inflight/inflight/AttributeValue -/
def k3 : Class := { plain "com/example/inflight/inflight/AttributeValue" (some 2) with
  accessFlags := 49
  interfaces := #[]
  cf := some (fileOf pool3 14 #[] #[{ accessFlags := 1, nameIndex := 5, descriptorIndex := 60, attributes := #[] }, { accessFlags := 1, nameIndex := 24, descriptorIndex := 67, attributes := #[] }] 49 2 #[] #[{ accessFlags := 18, nameIndex := 17, descriptorIndex := 18, attributes := #[] }, { accessFlags := 18, nameIndex := 21, descriptorIndex := 18, attributes := #[] }, { accessFlags := 18, nameIndex := 24, descriptorIndex := 10, attributes := #[] }])
  fields := #[{ name := "dataType", type := (.object "java/lang/String"), accessFlags := 18, slot := 0, constantValue := 0 }, { name := "stringValue", type := (.object "java/lang/String"), accessFlags := 18, slot := 1, constantValue := 0 }, { name := "binaryValue", type := (.array .byte), accessFlags := 18, slot := 2, constantValue := 0 }]
  methods := #[k3m0, k3m1]
  instanceTypes := #[(.object "java/lang/String"), (.object "java/lang/String"), (.array .byte)]
  staticTypes := #[]
  resolved := Array.replicate 89 none
  statics := none }

def pool4 : Array CpInfo := pool [(1, .class_ 2), (0, u "java/lang/Cloneable"), (0, .class_ 4), (0, u "java/lang/Object")] 2

/-- java/lang/Cloneable -/
def k4 : Class := { plain "java/lang/Cloneable" (some 0) with
  accessFlags := 1537
  interfaces := #[]
  cf := some (fileOf pool4 1 #[] #[] 1537 3 #[] #[])
  fields := #[]
  methods := #[]
  instanceTypes := #[]
  staticTypes := #[]
  resolved := Array.replicate 7 none
  statics := none }

def pool5 : Array CpInfo := pool [(1, u "java/io/Serializable"), (0, .class_ 1), (0, u "java/lang/Object"), (0, .class_ 3)] 3

/-- java/io/Serializable -/
def k5 : Class := { plain "java/io/Serializable" (some 0) with
  accessFlags := 1537
  interfaces := #[]
  cf := some (fileOf pool5 2 #[] #[] 1537 4 #[] #[])
  fields := #[]
  methods := #[]
  instanceTypes := #[]
  staticTypes := #[]
  resolved := Array.replicate 8 none
  statics := none }

/-- the primitive byte -/
def k6 : Class := { plain "byte" none with kind := .primitive 'B', accessFlags := 0x411 }
/-- [B -/
def k7 : Class := { plain "[B" (some 0) with kind := .array 6 .byte, interfaces := #[4, 5], accessFlags := 1041 }

/-- the primitive int -/
def k8 : Class := { plain "int" none with kind := .primitive 'I', accessFlags := 0x411 }
/-- [I -/
def k9 : Class := { plain "[I" (some 0) with kind := .array 8 .int, interfaces := #[4, 5], accessFlags := 1041 }

def heap : Heap := #[]
def classes : Array Class := #[k0, k1, k2, k3, k4, k5, k6, k7, k8, k9]
def interned : List (Array UInt16 × Addr) := []
def slotsUsed : Nat := 0
def theMethod : MethodId := ⟨1, 1⟩
def args0 : Array Value := #[.int 3, .int 4, .int 5, .int 6]
def aboutOver (below : List Frame) : State where
  vm := { classes := classes, interned := interned.toArray }
  heap := heap
  slotsUsed := slotsUsed
  threads := #[{ frames := .invoking theMethod args0 :: below }]
def below0 : List Frame := [.native { method := ⟨0, 0⟩, args := #[] }]
def about1 : State := aboutOver below0
def p0 : Program := .bare "" "" ""
def e0 : Env := launch0.env 0 0 0
theorem w_frames : about1.frames = Frame.invoking theMethod args0 :: below0 := rfl
set_option maxRecDepth 65536 in
theorem w_args : argsFit about1.vm theMethod args0 = true := by decide +kernel
set_option maxRecDepth 65536 in
theorem w_heap : heapFits about1 = true := by decide +kernel
set_option maxRecDepth 65536 in
theorem w_runnable : about1.curStatus? = some .runnable := by decide +kernel
set_option maxRecDepth 65536 in
theorem w_alone : about1.alone = true := by decide +kernel
set_option maxRecDepth 65536 in
theorem w_named : about1.methodNamed? x = some theMethod := by decide +kernel
set_option maxRecDepth 65536 in
theorem w_hears : about1.hears theMethod below0 = true := by decide +kernel
set_option maxRecDepth 65536 in
theorem w_ripe : about1.ripe theMethod args0 below0 = true := by decide +kernel
theorem w_running : about1.status = .running := rfl
set_option maxRecDepth 65536 in
theorem w_room : about1.hasRoom e0.platform room_1 = true :=
  launch0.hasRoom_least _ room_1 (by decide +kernel) (by decide +kernel) (by decide +kernel) (by decide +kernel) (by decide +kernel) (by decide +kernel)
theorem allAtoms_all (ts : List Jvm.Cond) (a : Array Jvm.Value) (st : Jvm.State) : (allAtoms ts).before a st = ts.all (fun c => c.before a st) := by
  induction ts with
  | nil => rfl
  | cons c t ih =>
    show (Jvm.Cond.and c (allAtoms t)).before a st = _
    rw [Jvm.Cond.before_and, ih, List.all_cons]
def words1 : List Jvm.Cond := Jvm.Cond.code x code maxLocals ret :: tables_1
/-- a 'code' word, met by the world's own term for the bytes: nothing is compared byte by byte -/
theorem code_word {y : MethodName} {bytes : ByteArray} {mx : Nat} {rt : Option FieldType} {a : Array Value} {s : State} {m : MethodId} {meth : Method} {c : Code} (h1 : s.methodNamed? y = some m) (h2 : s.vm.method? m = some meth) (h3 : meth.code = some c) (h4 : c.code = bytes)
    (h5 : (c.maxLocals == mx && c.exceptionTable.isEmpty && decide (c.maxStack ≤ mostOperands) && decide (meth.sig.returnType = rt) && !meth.locks && decide (parseMethodDescriptor y.desc = some meth.sig)) = true) : (Jvm.Cond.code y bytes mx rt).before a s = true := by
  simp only [Bool.and_eq_true, beq_iff_eq, Bool.not_eq_true', decide_eq_true_eq] at h5
  obtain ⟨⟨⟨⟨⟨g1, g2⟩, g3⟩, g4⟩, g5⟩, g6⟩ := h5
  simp [Cond.before, Cond.holds, Cond.value, h1, h2, h3, h4, g1, g2, g3, g4, g5, g6]
def isCode : Jvm.Cond → Bool
  | .code _ _ _ _ => true
  | _ => false
theorem all_split {L : List Jvm.Cond} {P : Jvm.Cond → Bool} (h1 : L.all (fun c => isCode c || P c) = true) (h2 : ∀ c ∈ L.filter isCode, P c = true) : L.all P = true := by
  refine List.all_eq_true.mpr fun c hc => ?_
  have h := List.all_eq_true.mp h1 c hc
  rcases Bool.eq_false_or_eq_true (isCode c) with hi | hi
  · exact h2 c (List.mem_filter.mpr ⟨hc, hi⟩)
  · simpa [hi] using h
set_option maxRecDepth 65536 in
theorem w_c0 : (Jvm.Cond.code x code maxLocals ret).before args0 about1 = true := code_word (m := ⟨1, 1⟩) (meth := k1m1) (c := k1c1) (by decide +kernel) rfl rfl rfl (by decide +kernel)
set_option maxRecDepth 65536 in
theorem w_c1 : (Jvm.Cond.code ({ cls := "com/example/inflight/inflight/AttributeValue", name := "<init>", desc := "(Ljava/lang/String;Ljava/lang/String;[B)V" } : Jvm.MethodName) prog_3_method_1_code (4 : Nat) (Option.none : Option Jvm.ClassFile.FieldType)).before args0 about1 = true := code_word (m := ⟨3, 0⟩) (meth := k3m0) (c := k3c0) (by decide +kernel) rfl rfl rfl (by decide +kernel)
set_option maxRecDepth 65536 in
theorem w_c2 : (Jvm.Cond.code ({ cls := "java/lang/Record", name := "<init>", desc := "()V" } : Jvm.MethodName) jdk_30_method_1_code (1 : Nat) (Option.none : Option Jvm.ClassFile.FieldType)).before args0 about1 = true := code_word (m := ⟨2, 0⟩) (meth := k2m0) (c := k2c0) (by decide +kernel) rfl rfl rfl (by decide +kernel)
set_option maxRecDepth 65536 in
theorem w_c3 : (Jvm.Cond.code ({ cls := "java/lang/Object", name := "<init>", desc := "()V" } : Jvm.MethodName) object_method_1_code (1 : Nat) (Option.none : Option Jvm.ClassFile.FieldType)).before args0 about1 = true := code_word (m := ⟨0, 0⟩) (meth := k0m0) (c := k0c0) (by decide +kernel) rfl rfl rfl (by decide +kernel)
set_option maxRecDepth 65536 in
theorem w_c4 : (Jvm.Cond.code ({ cls := "com/example/inflight/inflight/AttributeValue", name := "binaryValue", desc := "()[B" } : Jvm.MethodName) prog_3_method_2_code (1 : Nat) (Option.some (Jvm.ClassFile.FieldType.array Jvm.ClassFile.FieldType.byte))).before args0 about1 = true := code_word (m := ⟨3, 1⟩) (meth := k3m1) (c := k3c1) (by decide +kernel) rfl rfl rfl (by decide +kernel)
set_option maxRecDepth 65536 in
theorem w_c5 : (Jvm.Cond.code ({ cls := "com/example/inflight/inflight/AttributeValueBinaryValuePinLaw", name := "same", desc := "([BIBBB)Z" } : Jvm.MethodName) method_3_code (5 : Nat) (Option.some Jvm.ClassFile.FieldType.boolean)).before args0 about1 = true := code_word (m := ⟨1, 2⟩) (meth := k1m2) (c := k1c2) (by decide +kernel) rfl rfl rfl (by decide +kernel)
def codes1 : List Jvm.Cond := [Jvm.Cond.code x code maxLocals ret, Jvm.Cond.code ({ cls := "com/example/inflight/inflight/AttributeValue", name := "<init>", desc := "(Ljava/lang/String;Ljava/lang/String;[B)V" } : Jvm.MethodName) prog_3_method_1_code (4 : Nat) (Option.none : Option Jvm.ClassFile.FieldType), Jvm.Cond.code ({ cls := "java/lang/Record", name := "<init>", desc := "()V" } : Jvm.MethodName) jdk_30_method_1_code (1 : Nat) (Option.none : Option Jvm.ClassFile.FieldType), Jvm.Cond.code ({ cls := "java/lang/Object", name := "<init>", desc := "()V" } : Jvm.MethodName) object_method_1_code (1 : Nat) (Option.none : Option Jvm.ClassFile.FieldType), Jvm.Cond.code ({ cls := "com/example/inflight/inflight/AttributeValue", name := "binaryValue", desc := "()[B" } : Jvm.MethodName) prog_3_method_2_code (1 : Nat) (Option.some (Jvm.ClassFile.FieldType.array Jvm.ClassFile.FieldType.byte)), Jvm.Cond.code ({ cls := "com/example/inflight/inflight/AttributeValueBinaryValuePinLaw", name := "same", desc := "([BIBBB)Z" } : Jvm.MethodName) method_3_code (5 : Nat) (Option.some Jvm.ClassFile.FieldType.boolean)]
set_option maxRecDepth 65536 in
theorem codes_eq : words1.filter isCode = codes1 := rfl
theorem w_codes : ∀ c ∈ words1.filter isCode, c.before args0 about1 = true := by
  rw [codes_eq]
  intro c hc
  simp only [codes1, List.mem_cons, List.not_mem_nil, or_false] at hc
  rcases hc with rfl | rfl | rfl | rfl | rfl | rfl
  · exact w_c0
  · exact w_c1
  · exact w_c2
  · exact w_c3
  · exact w_c4
  · exact w_c5
set_option maxRecDepth 65536 in
theorem w_t1 : (words1.take 24).all (fun c => isCode c || c.before args0 about1) = true := by decide +kernel
set_option maxRecDepth 65536 in
theorem w_t2 : (words1.drop 24).all (fun c => isCode c || c.before args0 about1) = true := by decide +kernel
theorem w_tables : (allAtoms (Jvm.Cond.code x code maxLocals ret :: tables_1)).before args0 about1 = true := by
  rw [allAtoms_all]
  show words1.all (fun c => c.before args0 about1) = true
  refine all_split ?_ w_codes
  rw [← List.take_append_drop 24 words1, List.all_append, w_t1, w_t2]
  rfl
set_option maxRecDepth 65536 in
theorem w_case : (Jvm.Cond.and given_1 narrow_1).before args0 about1 = true := by decide +kernel
theorem w_applies : (headSpec (Jvm.Cond.code x code maxLocals ret :: tables_1) room_1).applies x e0.platform about1 = true :=
  (Spec.applies_iff w_frames).mpr ⟨w_running, w_runnable, w_alone, w_named, w_hears, w_ripe, w_room, w_tables⟩
theorem atStart : AtStart classFile x code maxLocals ret World_1 tables_1 room_1 Calls_1 rest_1 Pre_1 launch0 p0 e0 about1 theMethod args0 below0 :=
  ⟨lists_1, trivial, launch0.admits_env _ _ _, launch0.least_env, fairChoices_fair.cas, fairChoices_fair.clock, w_frames, w_args, w_heap, w_applies, trivial, trivial, w_case⟩
end start1
theorem witness_1 : WitnessClaimed_1 := ⟨start1.p0, start1.e0, start1.about1, start1.theMethod, start1.args0, start1.below0, start1.atStart⟩
end Jvm.Pilot.@@N@@
